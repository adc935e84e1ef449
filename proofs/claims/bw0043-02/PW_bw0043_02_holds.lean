import PyProof.Rows.All
import Wide.All
import OpenK.AllK
import Wide.FinOn
import PySem.Challenge.RW_bw0043_02
set_option Elab.async false
set_option linter.all false
section
open PySem PySem.W PyProof.Rows
set_option Elab.async false
set_option maxRecDepth 100000
set_option maxHeartbeats 8000000
namespace Mine
abbrev tb0 : Obj := { cls := .none, data := .fields #[] }
abbrev K2 (K : Params → Frag) (P : Params) : Frag := (348, tb0) :: (49, tb0) :: K P
theorem k2_as {K : Params → Frag} {as : List Addr} (e : ∀ P, as = (K P).map (·.1)) (P : Params) : 348 :: 49 :: as = (K2 K P).map (·.1) := by
  show _ = 348 :: 49 :: (K P).map (·.1)
  rw [← e P]
abbrev kHook2 (K : Params → Frag) (as : List Addr) (e : ∀ P, as = (K P).map (·.1)) : Hook := kHook (K2 K) (348 :: 49 :: as) (k2_as e)

local macro_rules | `(tactic| o_head (kHook $k $a $e)) => `(tactic| o_head (Mine.kHook2 $k $a $e))
open_top hd for PySem.Challenge.rw_bw0043_02

end Mine
end

section
set_option maxRecDepth 100000
set_option autoImplicit false
set_option linter.unusedVariables false
set_option Elab.async false
set_option maxHeartbeats 4000000
open PySem PySem.W PyProof.Rows PySem.Calls
namespace Mine
theorem fill_all : (fun P => (PySem.Challenge.rw_bw0043_02, hd.heap_39 P)) = fun P => (PySem.Challenge.rw_bw0043_02, hd.heap_39 P) := by
  k_fill
  rfl
end Mine
end

section
namespace Mine
open PySem PySem.W PyProof.Rows PySem.Calls

section
variable {prog : Program} {w : World} {A A₀ : Around} {E : Value → Shared → Prop} {s : Shared} {K : Frag} {C L : Addr} {h₀ base : Heap} {m mg mb : Str → Option Value} {news : List (Addr × Obj)} {p : Program} {loose : List Str} {Q : Value → Shared → Prop}

theorem enterR {env : Env} {outer : List Env} {R : Result → Shared → Prop} {name qual : Str} {params : Arguments} {body : List Stmt} {scope : Scope} {dV kV doc pm cdv ct oc : Value} {an od : Option Addr} {osl : Array (Option Value)} {f : Addr} {args : Args} {binds : List (Str × Value)}
    (B : Below A₀ base outer h₀) (F : Fr h₀ L s.heap m) (X₀ : K.In h₀) (N : News h₀ L s.heap news) (T : TopRead p loose mg mb h₀) (hA : A.frames = some (env :: outer)) (hf : env.frame = some L) (hke : env.scope.kind = .function)
    (ho : K.lookup f = some ⟨oc, od, .func (fnOf name qual params body scope dV kV doc pm an cdv ct), osl⟩) (hcd : codeIn K cdv qual = true) (hroom : A.depth < recursionLimit)
    (hbind : BindsTo s (fnOf name qual params body scope dV kV doc pm an cdv ct) args binds) (hloc : ∀ y ∈ binds, scope.names.lookup y.1 = some .local)
    (h : ∀ g L' h₁ tk, Fr h₀ L g m → Fr g L' h₁ (fun y => binds.reverse.lookup y) → News g L' h₁ news → Below A base (env :: outer) g → K.In g → TopRead p loose mg mb g → (∀ p ∈ news, p.1 < L') →
      wpAny (model prog w) (A.deeper (envOf qual scope L' f cdv)) (execs body (envOf qual scope L' f cdv))
        (fun fl s' => LeaveK h₀ L m g R (match fl with | .ret v => v | _ => .none) s')
        (fun e s' => wpAny (model prog w) (A.deeper (envOf qual scope L' f cdv)) (leaving (envOf qual scope L' f cdv) e) (fun _ s'' => R (.error e) s'') (fun e' s'' => R (.error e') s'') s')
        { s with heap := h₁, toks := tk })
    (hco : scope.isCoroutine = false) (hgen : scope.isGenerator = false) (hk : scope.kind = .function)
    (hcell : ∀ x ∈ scope.names, x.2 ≠ .cell) : codeAny (model prog w) A (.call (.ref f) args) R s :=
  callX_plain (cl := []) B F N T.nolimit hA hf hke ((X₀.keeps F.keep) _ _ ho) rfl (codeRec_of (X₀.keeps F.keep) hcd) hroom hbind hloc (fun g L' h₁ FG F' N' B' st l => h g L' h₁ _ FG F' N' B' (X₀.keeps st) (T.keeps st) l) hcell hco hgen hk

theorem enterRC {env : Env} {outer : List Env} {R : Result → Shared → Prop} {name qual : Str} {params : Arguments} {body : List Stmt} {scope : Scope} {dV kV doc pm cdv ct oc : Value} {an od : Option Addr} {osl : Array (Option Value)} {f : Addr} {args : Args} {binds : List (Str × Value)}
    (B : Below A₀ base outer h₀) (F : Fr h₀ L s.heap m) (X₀ : K.In h₀) (N : News h₀ L s.heap news) (T : TopRead p loose mg mb h₀) (hA : A.frames = some (env :: outer)) (hf : env.frame = some L) (hke : env.scope.kind = .function)
    (ho : K.lookup f = some ⟨oc, od, .func (fnOf name qual params body scope dV kV doc pm an cdv ct), osl⟩) (hcd : codeIn K cdv qual = true) (hroom : A.depth < recursionLimit)
    (hbind : BindsTo s (fnOf name qual params body scope dV kV doc pm an cdv ct) args binds) (hkind : (binds.all fun y => scope.names.lookup y.1 == some .local || scope.names.lookup y.1 == some .cell) = true)
    (hnd : ((cellsFrom 0 scope.names []).map (·.1)).Nodup)
    (h : ∀ g L' h₁ tk cells, Fr h₀ L g m → Fr g L' h₁ (bindL (envOfC qual scope L' f cdv).kindOf binds fun _ => none) → News g L' h₁ (cells ++ news) →
      CellsAre (bindC (envOfC qual scope L' f cdv).kindOf binds fun _ => none) (cellsFrom (L' + 1) scope.names []) cells → Below A base (env :: outer) g → K.In g → TopRead p loose mg mb g → (∀ p ∈ news, p.1 < L') →
      wpAny (model prog w) (A.deeper (envOfC qual scope L' f cdv)) (execs body (envOfC qual scope L' f cdv))
        (fun fl s' => LeaveK h₀ L m g R (match fl with | .ret v => v | _ => .none) s')
        (fun e s' => wpAny (model prog w) (A.deeper (envOfC qual scope L' f cdv)) (leaving (envOfC qual scope L' f cdv) e) (fun _ s'' => R (.error e) s'') (fun e' s'' => R (.error e') s'') s')
        { s with heap := h₁, toks := tk })
    (hco : scope.isCoroutine = false) (hgen : scope.isGenerator = false) (hk : scope.kind = .function) : codeAny (model prog w) A (.call (.ref f) args) R s :=
  callX_cells B F N T.nolimit hA hf hke ((X₀.keeps F.keep) _ _ ho) rfl (codeRec_of (X₀.keeps F.keep) hcd) hroom hbind (kindsX hkind) hnd (fun g L' h₁ tk cells FG F' N' Y B' st l => h g L' h₁ tk cells FG F' N' Y B' (X₀.keeps st) (T.keeps st) l) hco hgen hk
end


def FqIn (C : Addr) (led : List (Addr × Obj)) (v : Value) (n q : Int) : Prop :=
  ∃ a d h1 h2 t1 t2 t3 t4, v = .ref a ∧ (a, instObj C d) ∈ led ∧ (d, dictOf [⟨h1, .str "field_modulus" t1, .int q t2⟩, ⟨h2, .str "n" t3, .int n t4⟩] 2) ∈ led
theorem FqIn.mono {C : Addr} {led led' : List (Addr × Obj)} {v : Value} {n q : Int} (h : FqIn C led v n q) (k : ∀ p ∈ led, p ∈ led') : FqIn C led' v n q := by
  obtain ⟨a, d, h1, h2, t1, t2, t3, t4, e, x, y⟩ := h
  exact ⟨a, d, h1, h2, t1, t2, t3, t4, e, k _ x, k _ y⟩
theorem FqIn.of {C : Addr} {led : List (Addr × Obj)} {a d : Addr} {h1 h2 : Int} {t1 t2 t3 t4 : Tok} {n q : Int} (x : (a, instObj C d) ∈ led) (y : (d, dictOf [⟨h1, .str "field_modulus" t1, .int q t2⟩, ⟨h2, .str "n" t3, .int n t4⟩] 2) ∈ led) : FqIn C led (.ref a) n q :=
  ⟨a, d, h1, h2, t1, t2, t3, t4, rfl, x, y⟩
theorem fm_lo (a : Int) {q : Int} (hq : 0 < q) : 0 ≤ Int.fmod a q := by rw [Int.fmod_eq_emod_of_nonneg a (Int.le_of_lt hq)]; exact Int.emod_nonneg a (by omega)
theorem fm_hi (a : Int) {q : Int} (hq : 0 < q) : Int.fmod a q < q := by rw [Int.fmod_eq_emod_of_nonneg a (Int.le_of_lt hq)]; exact Int.emod_lt_of_pos a hq
end Mine
namespace Mine
open PySem PySem.W PyProof.Rows PySem.Calls
abbrev FqRet (C : Addr) (h₀ : Heap) (L : Addr) (m : Str → Option Value) (news : List (Addr × Obj)) (s : Shared) (Q : Value → Shared → Prop) (n q : Int) : Prop :=
  ∀ v new h' tk', Fr h₀ L h' m → News h₀ L h' (new ++ news) → (∀ b ∈ news, ∀ r ∈ new, b.1 < r.1) → FqIn C new v n q → Q v { s with heap := h', toks := tk' }
theorem fmfm (a q : Int) : Int.fmod (Int.fmod a q) q = Int.fmod a q := by simp
theorem fm_id {n q : Int} (h0 : 0 ≤ n) (h1 : n < q) : Int.fmod n q = n := by rw [Int.fmod_eq_emod_of_nonneg n (by omega)]; exact Int.emod_eq_of_lt h0 h1
end Mine

namespace Mine
open PySem PySem.W PyProof.Rows PySem.Calls
theorem news_tl {h₀ h : Heap} {L : Addr} {p : Addr × Obj} {news : List (Addr × Obj)} (N : News h₀ L h (p :: news)) : News h₀ L h news := fun q hq => N q (.tail _ hq)
theorem news_sub {h₀ h : Heap} {L : Addr} {news news' : List (Addr × Obj)} (N : News h₀ L h news) (k : ∀ p ∈ news', p ∈ news) : News h₀ L h news' := fun q hq => N q (k q hq)
end Mine

end

section
namespace Mine
open PySem PySem.W PyProof.Rows PySem.Calls
section
variable {prog : Program} {w : World} {A : Around} {E : Value → Shared → Prop} {s : Shared} {K : Frag} {x C L f g : Addr} {h₀ : Heap} {m : Str → Option Value} {ox : Obj} {od : Option Obj}
theorem decl_try {id : String} {name : Str} {k : Int} {t : Tok} {b : Value} {Q : Option Value → Shared → Prop} (sl : Slot "int" name id)
    (hd : wpAny (model prog w) A (call (.builtin id) [.int k t, b]) (fun v s' => v = .notImplemented ∧ s' = s) E s) (h : Q none s) : wpAny (model prog w) A (tryMethod (.int k t) name b) Q E s := by
  unfold tryMethod
  refine wpAny_bind (wpAny_callSpecial?_slot (typeIs_int s k t) sl (wpAny_mono hd (fun v s' hv => ?_) fun _ _ e => e))
  obtain ⟨rfl, rfl⟩ := hv
  exact wpAny_pure h
theorem decl_sub {k : Int} {t : Tok} (I : InstAt s.heap x ox C od) (hp : ox.data = .plain) : wpAny (model prog w) A (call (.builtin "int.__sub__") [.int k t, .ref x]) (fun v s' => v = .notImplemented ∧ s' = s) E s := by
  refine wpAny_call (codeAny_call_builtin F.slot_int_sub.plain F.entry_int_sub (F.slot_int_sub.check _ _ _ _ _ _ _ _ (typeIs_int s k t) (F.args_int_sub_2 _ _) ?_))
  unfold Builtin.«int.__sub__» Builtin.Int.intBinary
  obtain ⟨hh, gg, d, tt, os⟩ := s
  refine wpAny_bind (wpAny_pure ?_)
  refine wpAny_bind (wpAny_pure ?_)
  refine wpAny_bind (m := asInt? (.ref x)) (wpAny_bind (wpAny_load I.at_ ?_))
  rw [hp]
  refine wpAny_pure ?_
  exact wpAny_bind (wpAny_rule (wpAny_pure ⟨rfl, rfl⟩))
theorem decl_div {k : Int} {t : Tok} (I : InstAt s.heap x ox C od) (hp : ox.data = .plain) : wpAny (model prog w) A (call (.builtin "int.__truediv__") [.int k t, .ref x]) (fun v s' => v = .notImplemented ∧ s' = s) E s := by
  refine wpAny_call (codeAny_call_builtin F.slot_int_truediv.plain F.entry_int_truediv (F.slot_int_truediv.check _ _ _ _ _ _ _ _ (typeIs_int s k t) (F.args_int_truediv_2 _ _) ?_))
  unfold Builtin.«int.__truediv__»
  obtain ⟨hh, gg, d, tt, os⟩ := s
  refine wpAny_bind (wpAny_pure ?_)
  refine wpAny_bind (m := asInt? (.ref x)) (wpAny_bind (wpAny_load I.at_ ?_))
  rw [hp]
  refine wpAny_pure ?_
  exact wpAny_pure ⟨rfl, rfl⟩

end
end Mine

end

section
namespace Mine
open PySem PySem.W PyProof.Rows PySem.Calls
section
variable {prog : Program} {w : World} {A : Around} {E : Value → Shared → Prop} {s : Shared} {K : Frag} {x C L f g : Addr} {h₀ : Heap} {m : Str → Option Value} {ox : Obj} {od : Option Obj}
theorem plain_int_new : plainId "int.__new__" = true := by decide +kernel
theorem int_K {Q : Value → Shared → Prop} (F₀ : Fr h₀ L s.heap m) (X₀ : K.In h₀) (I : InstAt s.heap x ox C od) (hs : findIn K (.ref C) "__int__" = some (some (.ref f))) (hf : isFn K (.ref f) = true)
    (h : wpAny (model prog w) A.in1.in1 (call (.ref f) [.ref x]) (fun v s' => match v with | .int i t => Q (.int i t) s' | _ => False) E s) : wpAny (model prog w) A (call (.type "int") [.ref x]) Q E s := by
  refine callType_codes (Q₁ := fun obj s₁ => s₁.TypeIs obj "int" ∧ Q obj s₁) F.called_int (F.typeCall_int_1 _) F.entry_object_init ?_ fun obj s₁ h₁ => ?_
  · refine codeAny_of_tree ?_
    show wpAny _ A.in1.in1 (do checkBuiltinCall "int.__new__" ⟨[.type "int", .ref x], []⟩; again (.builtin "int.__new__" ⟨[.type "int", .ref x], []⟩)) _ _ s
    refine wpAny_bind (wpAny_of_eq (F.newCall_int_1 _) (wpAny_pure ⟨plainId_quiet plain_int_new _, codeAny_builtin F.entry_int_new ?_⟩))
    rw [Around.under_plainId plain_int_new _]
    have X := X₀.keeps F₀.keep
    unfold Builtin.«int.__new__»
    have f1 := F.conv_sub_int
    have f2 := F.madeHere_int
    have sp : ∀ Q' : Option Value → Shared → Prop, (∀ i t s', Q (.int i t) s' → Q' (some (.int i t)) s') → wpAny (model prog w) A.in1.in1 (callSpecial? (.ref x) (Str.ofString "__int__")) Q' E s := fun Q' k =>
      special_fn X I hs (beq_iff_eq.mp hf) (wpAny_mono h (fun v s' hv => by cases v <;> first | exact hv.elim | exact k _ _ s' hv) fun _ _ e => e)
    clear h
    obtain ⟨hp, gg, d, tk, os⟩ := s
    repeat (any_goals (first | assumption | ((with_reducible show wpAny _ _ (callSpecial? _ _ _) _ _ _); refine sp _ fun i t s' hq => ?_) | wp_step))
    all_goals first | exact ⟨rfl, hq⟩ | skip
  · exact ⟨h₁.1, F.args_object_init_2 obj _, object_init_meets F.called_int.init.lookup F.called_int.made (by decide) prog w A.in1 _ s₁ ⟨h₁.1, rfl, h₁.2⟩⟩
end
end Mine

end

section
namespace Mine
open PySem PySem.W PyProof.Rows PySem.Calls

def pfiL : Nat → Int → Int → Int → Int → Int
  | 0, lm, _, _, _ => lm
  | f + 1, lm, hm, low, high => if 1 < low then pfiL f (hm - lm * high.fdiv low) lm (high - low * high.fdiv low) low else lm
def pfi (a n : Int) : Int := if Int.fmod a n = 0 then 0 else Int.fmod (pfiL n.toNat 1 0 (Int.fmod (Int.fmod a n) n) n) n
def PfiInv (tgt lm hm low high : Int) : Prop := 0 ≤ low ∧ low < high ∧ high < 1000 ∧ ∃ f : Nat, low.toNat < f ∧ pfiL f lm hm low high = tgt
theorem pfi_rest {high low : Int} (h0 : 0 < low) : high - low * high.fdiv low = Int.fmod high low := by
  have := Int.mul_fdiv_add_fmod high low
  omega
theorem pfi_step {tgt lm hm low high : Int} (h : PfiInv tgt lm hm low high) (hl : 1 < low) : PfiInv tgt (hm - lm * high.fdiv low) lm (high - low * high.fdiv low) low := by
  obtain ⟨h0, h1, h2, f, hf, e⟩ := h
  cases f with
  | zero => omega
  | succ f =>
    rw [pfiL, if_pos hl] at e
    have hp : 0 < low := by omega
    have a1 := fm_lo high hp
    have a2 := fm_hi high hp
    refine ⟨by rw [pfi_rest hp]; exact a1, by rw [pfi_rest hp]; exact a2, by omega, f, ?_, e⟩
    rw [pfi_rest hp]
    omega
theorem pfi_done {tgt lm hm low high : Int} (h : PfiInv tgt lm hm low high) (hl : ¬ 1 < low) : lm = tgt := by
  obtain ⟨h0, h1, h2, f, hf, e⟩ := h
  cases f with
  | zero => omega
  | succ f => rw [pfiL, if_neg hl] at e; exact e
theorem pfi_start {n v : Int} (h0 : 0 ≤ v) (h1 : v < n) (h2 : n < 1000) : PfiInv (pfiL n.toNat 1 0 v n) 1 0 v n := ⟨h0, h1, h2, n.toNat, by omega, rfl⟩
theorem pfi_less {low high : Int} (hl : 1 < low) : (high - low * high.fdiv low).toNat < low.toNat := by
  have hp : 0 < low := by omega
  have a1 := fm_lo high hp
  have a2 := fm_hi high hp
  rw [pfi_rest hp]
  omega
abbrev PfiP (tgt lm hm low high : Int) : Prop := 0 ≤ low ∧ low < high ∧ high < 1000 ∧ PfiInv tgt lm hm low high
theorem pfi_P {tgt lm hm low high : Int} (h : PfiInv tgt lm hm low high) : PfiP tgt lm hm low high := ⟨h.1, h.2.1, h.2.2.1, h⟩
theorem pfi_zero {a n : Int} (h : Int.fmod a n = 0) : pfi a n = 0 := by unfold pfi; rw [if_pos h]
theorem pfi_pos {a n : Int} (h : ¬ Int.fmod a n = 0) : pfi a n = Int.fmod (pfiL n.toNat 1 0 (Int.fmod (Int.fmod a n) n) n) n := by unfold pfi; rw [if_neg h]
theorem fdiv_le {h l : Int} (h0 : 0 ≤ h) (hl : 0 < l) : 0 ≤ h.fdiv l ∧ h.fdiv l ≤ h := by
  rw [Int.fdiv_eq_ediv_of_nonneg h (Int.le_of_lt hl)]
  exact ⟨Int.ediv_nonneg h0 (Int.le_of_lt hl), Int.ediv_le_self l h0⟩
theorem mul_fdiv {x h l : Int} (h0 : 0 ≤ h) (h1 : h < 1000) (hl : 0 < l) : IntMulOk x (h.fdiv l) := by
  have := fdiv_le h0 hl
  exact IntMulOk.of_right (intBits_le_64 (by omega) (by omega))
abbrev IntRet (h₀ : Heap) (L : Addr) (m : Str → Option Value) (news : List (Addr × Obj)) (s : Shared) (Q : Value → Shared → Prop) (n : Int) : Prop :=
  ∀ t h' tk', Fr h₀ L h' m → News h₀ L h' news → Q (.int n t) { s with heap := h', toks := tk' }
theorem pfi_ret0 {h₀ h' : Heap} {L : Addr} {m : Str → Option Value} {news : List (Addr × Obj)} {s : Shared} {Q : Value → Shared → Prop} {a n : Int} {t : Tok} {tk' : Nat} (ret : IntRet h₀ L m news s Q (pfi a n)) (h : Int.fmod a n = 0) (F : Fr h₀ L h' m) (N : News h₀ L h' news) :
    Q (.int 0 t) { s with heap := h', toks := tk' } := by rw [← pfi_zero h]; exact ret _ _ _ F N
theorem pfi_ret1 {h₀ h' : Heap} {L : Addr} {m : Str → Option Value} {news : List (Addr × Obj)} {s : Shared} {Q : Value → Shared → Prop} {a n lm hm low high : Int} {t : Tok} {tk' : Nat} (ret : IntRet h₀ L m news s Q (pfi a n)) (h : ¬ Int.fmod a n = 0)
    (hi : PfiInv (pfiL n.toNat 1 0 (Int.fmod (Int.fmod a n) n) n) lm hm low high) (hl : ¬ 1 < low) (F : Fr h₀ L h' m) (N : News h₀ L h' news) : Q (.int (Int.fmod lm n) t) { s with heap := h', toks := tk' } := by rw [pfi_done hi hl, ← pfi_pos h]; exact ret _ _ _ F N
end Mine

end

section
namespace Mine
open PySem PySem.W PyProof.Rows PySem.Calls

def SinceH (C I : Addr) (s₀ s : Shared) : Prop := ∃ h' tk, s = { s₀ with heap := h', toks := tk } ∧ ∀ b o, b ≠ C → b ≠ I → s₀.heap.get? b = some o → h'.get? b = some o
theorem SinceH.refl (C I : Addr) (s : Shared) : SinceH C I s s := ⟨s.heap, s.toks, rfl, fun _ _ _ _ e => e⟩
theorem SinceH.step {C I : Addr} {s₀ s : Shared} (x : SinceH C I s₀ s) {h' : Heap} {tk : Nat} (hk : ∀ b o, b ≠ C → b ≠ I → s.heap.get? b = some o → h'.get? b = some o) : SinceH C I s₀ { s with heap := h', toks := tk } := by
  obtain ⟨h₁, tk₁, rfl, hk₁⟩ := x
  exact ⟨h', tk, rfl, fun b o hC hI e => hk b o hC hI (hk₁ b o hC hI e)⟩

def StillH (C : Addr) (u s : Shared) : Prop := ∃ h' tk m, s = { u with heap := h', toks := tk } ∧ (∀ b o, b ≠ C → u.heap.get? b = some o → h'.get? b = some o) ∧ h'.Ns C m
def protoH (C I N n : Nat) (F : Nat → Value → Heap → Prop) : Protocol := fun m s₀ v s kap =>
  (∃ i, i + 1 + m = n ∧ F i v s.heap) ∧ SinceH C I s₀ s ∧ ∀ s'' : Shared, (∀ b o, b < N → s.heap.get? b = some o → s''.heap.get? b = some o) → kap (.send .none) s''
def endH (C I : Addr) : GenEnd := fun n s₀ r s₁ => r = .ok .next ∧ (n = 0 ∧ SinceH C I s₀ s₁)

section
variable {prog : Program} {w : World} {A : Around}
structure EltH (prog : Program) (w : World) (A : Around) (cenv : Env) (x : Str) (elt : Expr) (I N : Addr) (P : Nat → Value → Prop) (F : Nat → Value → Heap → Prop) (href : Heap) : Prop where
  elt : ∀ (A' : Around) E' i v (u : Shared) m₂, A'.handled = none → A'.depth = A.depth + 1 → A'.units = A.units + 3 → A'.frames = A.frames.map (cenv :: ·) → P i v → u.heap.Ns cenv.locals m₂ → m₂ x = some v →
    (∀ b o, b < N → b ≠ I → b ≠ cenv.locals → href.get? b = some o → u.heap.get? b = some o) → wpAny (model prog w) A' (eval elt cenv) (fun y s => F i y s.heap ∧ StillH cenv.locals u s) E' u

theorem segH {elt iter : Expr} {x : Str} {px : Pos} {scope : Scope} {pos : Pos} {I N : Addr} {fp : List Addr} {n : Nat} {P : Nat → Value → Prop} {St : Nat → Heap → Prop} {cenv : Env} {F : Nat → Value → Heap → Prop} {href : Heap}
    (hh : A.handled = none) (W : ∀ A' : Around, A'.handled = none → Walks prog w A' I fp [I] n P St)
    (hx : cenv.kindOf x = some .local) (hp : (cenv.scope.kind == .class || (cenv.scope.kind == .module && cenv.locals != cenv.globals)) = false)
    (hco : cenv.scope.isCoroutine = false) (hfp : ∀ b ∈ fp, b < N) (hC : cenv.locals < N) (hCf : cenv.locals ∉ fp) (hq : EltH prog w A cenv x elt I N P F href) :
    ∀ (k i : Nat) (s₀ s : Shared) (m : Str → Option Value), n - i = k → i ≤ n → St i s.heap → s.heap.Ns cenv.locals m → SinceH cenv.locals I s₀ s →
      (∀ b o, b < N → b ≠ I → b ≠ cenv.locals → href.get? b = some o → s.heap.get? b = some o) →
      Seg (model prog w) A (endH cenv.locals I) (protoH cenv.locals I N n F) (n - i) s₀
        (.compLoop (.GeneratorExp elt [⟨.Name x px, iter, [], 0⟩] scope pos) 0 (.ref I) .none cenv)
        ((model prog w).den (.compLoop (.GeneratorExp elt [⟨.Name x px, iter, [], 0⟩] scope pos) 0 (.ref I) .none cenv)) [] s := by
  have hh' : (A.over (.compLoop (.GeneratorExp elt [⟨.Name x px, iter, [], 0⟩] scope pos) 0 (.ref I) .none cenv) []).handled = none := hh
  have hIf : I ∈ fp := (W A hh).sub _ (.head _)
  have hCI : cenv.locals ≠ I := fun e => hCf (e ▸ hIf)
  intro k
  induction k with
  | zero =>
    intro i s₀ s m hk hi hst hn hs hkp
    have hin : i = n := by omega
    subst hin
    show Seg _ A _ _ _ s₀ _ ((compTurn (.GeneratorExp elt [⟨.Name x px, iter, [], 0⟩] scope pos) 0 (.ref I) .none cenv).onRaise (leaving cenv)) [] s
    rw [compTurn_gen, Sem.onRaise_eq_wrap]
    refine seg_bind_wrap (wpAny_standAt ?_)
    refine seg_bind_wrap ((W _ hh').done s _ _ hst fun h' tk hk' => ?_)
    exact seg_end (.ok .next) ⟨rfl, by omega, hs.step fun b o _ hI e => hk' b o (by simpa using hI) e⟩
  | succ k ih =>
    intro i s₀ s m hk hi hst hn hs hkp
    have hlt : i < n := by omega
    show Seg _ A _ _ _ s₀ _ ((compTurn (.GeneratorExp elt [⟨.Name x px, iter, [], 0⟩] scope pos) 0 (.ref I) .none cenv).onRaise (leaving cenv)) [] s
    rw [compTurn_gen, Sem.onRaise_eq_wrap]
    refine seg_bind_wrap (wpAny_standAt ?_)
    refine seg_bind_wrap ((W _ hh').item i s _ _ hlt hst fun v h₁ tk₁ hPv hst₁ hk₁ => ?_)
    refine seg_bind_wrap (wpAny_of_eq (rfl : letOwnedTupleGo (.Name x px) (.ref I) v = pure ()) ?_)
    refine seg_bind_wrap (wpAny_assign_Name (wpAny_storeName_local hx (hn.at' fun o e => hk₁ _ o (by simpa using hCI) e) (fun h₂ hn₂ hs₂ => ?_) hp))
    have up₂ : ∀ b o, b ≠ cenv.locals → b ≠ I → s.heap.get? b = some o → h₂.get? b = some o := fun b o hbC hbI e => hs₂.extBut b o hbC (hk₁ b o (by simpa using hbI) e)
    have hst₂ : St (i + 1) h₂ := (W A hh).frame _ _ _ hst₁ fun b hb o e => hs₂.extBut b o (fun h => hCf (h ▸ hb)) e
    have hkp₂ : ∀ b o, b < N → b ≠ I → b ≠ cenv.locals → href.get? b = some o → h₂.get? b = some o := fun b o hN hI hC' e => up₂ b o hC' hI (hkp b o hN hI hC' e)
    have none_ : ∀ u : Shared, ∀ Q : Bool → Shared → Prop, ∀ E, Q true u → wpAny (model prog w) (A.over (.compLoop (.GeneratorExp elt [⟨.Name x px, iter, [], 0⟩] scope pos) 0 (.ref I) .none cenv) []) (forIn ([] : List Expr) true fun c r => if r = true then do let ok ← isTrue c cenv (eval c cenv); pure (ForInStep.yield ok) else pure (ForInStep.yield r)) Q E u := fun u Q E hQ => wpAny_pure hQ
    refine seg_bind_wrap (none_ _ _ _ ?_)
    have hy : ∀ v, yieldOut cenv v = yieldValue v := fun v => by simp only [yieldOut, hco, Bool.false_eq_true, if_false]
    simp only [hy, if_true]
    rw [Sem.bind_eq_wrap', Sem.bind_eq_wrap', Sem.wrap_wrap, Sem.wrap_wrap]
    refine seg_wrap (wpAny_mono (hq.elt _ _ i v _ _ hh' rfl rfl rfl hPv hn₂ (by simp) hkp₂) (fun y s₄ h₄ => ?_) fun _ _ e => e)
    obtain ⟨hFy, h₄, tk₄, m₄, rfl, hk₄, hn₄⟩ := h₄
    have hst₄ : St (i + 1) h₄ := (W A hh).frame _ _ _ hst₂ fun b hb o e => hk₄ b o (fun h => hCf (h ▸ hb)) e
    have hi' : n - i = (n - (i + 1)) + 1 := by omega
    rw [hi']
    refine seg_at (seg_yield rfl rfl rfl ⟨⟨i, by omega, hFy⟩, hs.step fun b o hbC hbI e => hk₄ b o hbC (up₂ b o hbC hbI e), fun s'' hal => ?_⟩)
    refine seg_again rfl (ih (i + 1) s'' s'' m₄ (by omega) hlt ((W A hh).frame _ _ _ hst₄ fun b hb o e => hal b o (hfp b hb) e)
      (hn₄.at' fun o e => hal _ o hC e) (SinceH.refl _ _ _) fun b o hN hI hC' e => hal b o hN (hk₄ b o hC' (hkp₂ b o hN hI hC' e)))
end
end Mine
namespace Mine
open PySem PySem.W PyProof.Rows PySem.Calls
section
variable {prog : Program} {w : World} {A : Around}
theorem segStartH {elt iter : Expr} {x : Str} {px : Pos} {scope : Scope} {pos : Pos} {I N : Addr} {fp : List Addr} {n : Nat} {P : Nat → Value → Prop} {St : Nat → Heap → Prop} {cenv : Env} {F : Nat → Value → Heap → Prop} {href : Heap}
    (hh : A.handled = none) (W : ∀ A' : Around, A'.handled = none → Walks prog w A' I fp [I] n P St)
    (hx : cenv.kindOf x = some .local) (hp : (cenv.scope.kind == .class || (cenv.scope.kind == .module && cenv.locals != cenv.globals)) = false)
    (hco : cenv.scope.isCoroutine = false) (hfp : ∀ b ∈ fp, b < N) (hC : cenv.locals < N) (hCf : cenv.locals ∉ fp) (hq : EltH prog w A cenv x elt I N P F href)
    (s : Shared) (m : Str → Option Value) (hst : St 0 s.heap) (hn : s.heap.Ns cenv.locals m) (hkp : ∀ b o, b < N → b ≠ I → b ≠ cenv.locals → href.get? b = some o → s.heap.get? b = some o) :
    Seg (model prog w) A (endH cenv.locals I) (protoH cenv.locals I N n F) n s
      (.compStart (.GeneratorExp elt [⟨.Name x px, iter, [], 0⟩] scope pos) 0 (.ref I) .none cenv)
      ((model prog w).den (.compStart (.GeneratorExp elt [⟨.Name x px, iter, [], 0⟩] scope pos) 0 (.ref I) .none cenv)) [] s := by
  have hh' : (A.over (.compStart (.GeneratorExp elt [⟨.Name x px, iter, [], 0⟩] scope pos) 0 (.ref I) .none cenv) []).handled = none := hh
  have loop := segH (iter := iter) (px := px) (scope := scope) (pos := pos) hh W hx hp hco hfp hC hCf hq n 0 s s m (Nat.sub_zero _) (Nat.zero_le _) hst hn (SinceH.refl _ _ _) hkp
  rw [Nat.sub_zero] at loop
  show Seg _ A _ _ _ s _ ((compStart (.GeneratorExp elt [⟨.Name x px, iter, [], 0⟩] scope pos) 0 (.ref I) .none cenv).onRaise (leaving cenv)) [] s
  unfold compStart
  rw [Sem.onRaise_eq_wrap]
  show Seg _ A _ _ _ s _ ((ask >>= _).wrap _ _ _ _) [] s
  refine seg_bind_wrap (wpAny_askSetting ?_)
  split
  · exact seg_again rfl loop
  · refine seg_bind_wrap (wpAny_rule ?_)
    show Seg _ A _ _ _ s _ ((standAt iter.pos >>= _).wrap _ _ _ _) [] s
    exact seg_bind_wrap (wpAny_standAt (seg_bind_wrap ((W _ hh').self 0 s _ _ hst (seg_again rfl loop))))


structure GenH (prog : Program) (w : World) (A : Around) (a : Addr) (g : Nat) (C I N n : Nat) (F : Nat → Value → Heap → Prop) (j : Nat) (s : Shared) : Prop where
  isgen : s.heap.IsGen a g
  lim : s.heap.NoLimit
  go : ∃ gs, s.gens[g]? = some gs ∧ ∀ s'' : Shared, (∀ b o, b < N → s.heap.get? b = some o → s''.heap.get? b = some o) → gs.Goes (model prog w) A.in1 (endH C I) (protoH C I N n F) (n - j) (.send .none) s''
theorem GenH.keeps {a : Addr} {g C I N n : Nat} {F : Nat → Value → Heap → Prop} {j : Nat} {s : Shared} (x : GenH prog w A a g C I N n F j s) {h' : Heap} {tk : Nat} (ha : a < N) (hc : cStatics < N) (hk : ∀ b o, b < N → s.heap.get? b = some o → h'.get? b = some o) :
    GenH prog w A a g C I N n F j { s with heap := h', toks := tk } := by
  obtain ⟨⟨o, nm, qn, ho, r⟩, ⟨mc, hns, hnn⟩, gs, hgs, hgo⟩ := x
  exact ⟨⟨o, nm, qn, hk a o ha ho, r⟩, ⟨mc, hns.at' fun o e => hk cStatics o hc e, hnn⟩, gs, hgs, fun s'' hal => hgo s'' fun b o hb e => hal b o hb (hk b o hb e)⟩


structure MovH (C I : Addr) (s s' : Shared) : Prop where
  heap : ∀ b o, b ≠ C → b ≠ I → s.heap.get? b = some o → s'.heap.get? b = some o
  gens : AllBare s.gens → AllBare s'.gens
  drawn : s'.drawn = s.drawn
  os : s'.os = s.os
theorem nextH {a : Addr} {g C I N n : Nat} {F : Nat → Value → Heap → Prop} {j : Nat} {s : Shared} {Q : Option Value → Shared → Prop} {E : Value → Shared → Prop} (hh : A.handled = none) (hroom : A.depth < recursionLimit)
    (haC : a ≠ C) (haI : a ≠ I) (hcC : cStatics ≠ C) (hcI : cStatics ≠ I) (hj : j < n) (st : GenH prog w A a g C I N n F j s)
    (hQ : ∀ v s', F j v s'.heap → GenH prog w A a g C I N n F (j + 1) s' → MovH C I s s' → Q (some v) s') : wpAny (model prog w) A (pyNext (.ref a)) Q E s := by
  obtain ⟨hg, hl, gs, hgs, hgo⟩ := st
  obtain ⟨m, hm⟩ : ∃ m, n - j = m + 1 := ⟨n - j - 1, by omega⟩
  rw [hm] at hgo
  refine wpAny_pyNext_genexpQ (P := fun n s₀ s₁ => n = 0 ∧ SinceH C I s₀ s₁) hh hl hroom hg hgs (hgo _ fun _ _ _ e => e) (fun v s₁ gs' hb hv => ?_) (fun s₁ hp h' hk => ?_)
  · obtain ⟨⟨i, hi, hF⟩, ⟨h₁, tk₁, rfl, hk₁⟩, hkap⟩ := hv
    have hij : i = j := by omega
    subst hij
    refine hQ v _ hF ⟨let ⟨o, nm, qn, ho, r⟩ := hg; ⟨o, nm, qn, hk₁ a o haC haI ho, r⟩, (let ⟨mc, hns, hnn⟩ := hl; ⟨mc, hns.at' fun o e => hk₁ cStatics o hcC hcI e, hnn⟩), gs', setGen_self (gs := .running) (setGen_self hgs), fun s'' hal => ?_⟩
      ⟨fun b o h1 h2 e => hk₁ b o h1 h2 e, fun hab => (GenOnlyQ.of ((GenOnly.setGen s g .running).trans (GenOnly.setGen _ g gs')) (setGen_self (gs := .running) (setGen_self hgs)) hb).bare hab, rfl, rfl⟩
    have e : n - (i + 1) = m := by omega
    rw [e]
    exact hkap s'' hal
  · exact absurd hp.1 (Nat.succ_ne_zero m)
theorem doneH {a : Addr} {g C I N n : Nat} {F : Nat → Value → Heap → Prop} {s : Shared} {Q : Option Value → Shared → Prop} {E : Value → Shared → Prop} (hh : A.handled = none) (hroom : A.depth < recursionLimit)
    (st : GenH prog w A a g C I N n F n s) (hQ : ∀ s', MovH C I s s' → Q none s') : wpAny (model prog w) A (pyNext (.ref a)) Q E s := by
  obtain ⟨hg, hl, gs, hgs, hgo⟩ := st
  rw [Nat.sub_self] at hgo
  refine wpAny_pyNext_genexpQ (P := fun n s₀ s₁ => n = 0 ∧ SinceH C I s₀ s₁) hh hl hroom hg hgs (hgo _ fun _ _ _ e => e) (fun v s₁ gs' hb hv => ?_) (fun s₁ hp h' hk => ?_)
  · obtain ⟨_, _, hkap⟩ := hv
    exact False.elim (hkap s₁ fun _ _ _ e => e)
  · obtain ⟨_, h₁, tk₁, rfl, hk₁⟩ := hp
    exact hQ _ ⟨fun b o h1 h2 e => hk b o (hk₁ b o h1 h2 e), fun hab => (GenOnlyQ.of ((GenOnly.setGen s g .running).trans (GenOnly.setGen _ g .finished)) (setGen_self (gs := .running) (setGen_self hgs)) rfl).bare hab, rfl, rfl⟩
end
end Mine

namespace Mine
open PySem PySem.W PyProof.Rows PySem.Calls
theorem upd_self {h : Heap} {S : Addr} {acc : Array Value} {c : Nat} (v : Value) (e : h.get? S = some { cls := .type "list", dict := none, data := .seq acc c, slots := #[] }) :
    ∃ c', (h.update S (Obj.mapSeq (·.push v))).get? S = some { cls := .type "list", dict := none, data := .seq (acc.push v) c', slots := #[] } := by
  refine ⟨if (acc.push v).size == acc.size then c else c + 1, ?_⟩
  exact Heap.get?_update_self _ e rfl
section
variable {prog : Program} {w : World} {A : Around}
def AccH (F : Nat → Value → Heap → Prop) (acc : Array Value) (i : Nat) (h : Heap) : Prop := acc.size = i ∧ ∀ j v, acc[j]? = some v → F j v h
theorem AccH.nil (F : Nat → Value → Heap → Prop) (h : Heap) : AccH F #[] 0 h := ⟨rfl, fun j v h => by simp at h⟩
theorem AccH.push {F : Nat → Value → Heap → Prop} {acc : Array Value} {i : Nat} {h : Heap} {x : Value} (y : AccH F acc i h) (hx : F i x h) : AccH F (acc.push x) (i + 1) h := by
  refine ⟨by rw [Array.size_push, y.1], fun j v hj => ?_⟩
  rw [Array.getElem?_push] at hj
  split at hj
  · rename_i e; rw [y.1] at e; cases hj; rw [e]; exact hx
  · exact y.2 j v hj
theorem loopH {R : Result → Shared → Prop} {a : Addr} {g C I N n : Nat} {F : Nat → Value → Heap → Prop} (hh : A.handled = none) (hroom : A.depth < recursionLimit) (haN : a < N) (hcN : cStatics < N) (hCN : C < N) (hIN : I < N)
    (haC : a ≠ C) (haI : a ≠ I) (hcC : cStatics ≠ C) (hcI : cStatics ≠ I) (Fm : ∀ i v h h', F i v h → (∀ b o, b ≠ C → b ≠ I → o.cls ≠ .type "list" → h.get? b = some o → h'.get? b = some o) → F i v h') (hn : n ≤ sizeLine) (hSN : N ≤ S) (res : Value) :
    ∀ (k i : Nat) (s : Shared) (acc : Array Value) (c : Nat), n - i = k → i ≤ n → GenH prog w A.in1 a g C I N n F i s → s.heap.get? S = some { cls := .type "list", dict := none, data := .seq acc c, slots := #[] } → AccH F acc i s.heap →
    (∀ s' acc' c', (∀ b o, b ≠ C → b ≠ I → b ≠ S → s.heap.get? b = some o → s'.heap.get? b = some o) → (AllBare s.gens → AllBare s'.gens) → s'.drawn = s.drawn → s'.os = s.os →
      s'.heap.get? S = some { cls := .type "list", dict := none, data := .seq acc' c', slots := #[] } → AccH F acc' n s'.heap → R (.ok (.ret res)) s') →
    codeAny (model prog w) A (.builtin "list.extend.loop" ⟨[.ref S, .ref a, res], []⟩) R s := by
  have hSC : S ≠ C := fun e => Nat.lt_irrefl _ (Nat.lt_of_lt_of_le (e ▸ hCN) hSN)
  have hSI : S ≠ I := fun e => Nat.lt_irrefl _ (Nat.lt_of_lt_of_le (e ▸ hIN) hSN)
  intro k
  induction k with
  | zero =>
    intro i s acc c hk hi st hS hacc hR
    have hin : i = n := by omega
    subst hin
    refine codeAny_builtin PySem.F.entry_extend_loop ?_
    rw [Around.under_plainId PySem.F.plain_extend_loop _]
    show wpAny _ A.in1 (pyNext (.ref a) >>= _) _ _ s
    refine wpAny_bind (doneH hh hroom st fun s' hm => ?_)
    exact wpAny_pure (hR s' acc c (fun b o h1 h2 _ e => hm.heap b o h1 h2 e) hm.gens hm.drawn hm.os (hm.heap S _ hSC hSI hS) ⟨hacc.1, fun j v hv => Fm j v _ _ (hacc.2 j v hv) fun b o h1 h2 _ e => hm.heap b o h1 h2 e⟩)
  | succ k ih =>
    intro i s acc c hk hi st hS hacc hR
    have hlt : i < n := by omega
    refine codeAny_builtin PySem.F.entry_extend_loop ?_
    rw [Around.under_plainId PySem.F.plain_extend_loop _]
    show wpAny _ A.in1 (pyNext (.ref a) >>= _) _ _ s
    refine wpAny_bind (nextH hh hroom haC haI hcC hcI hlt st fun v s' hF st' hm => ?_)
    have hS' := hm.heap S _ hSC hSI hS
    obtain ⟨c', hS''⟩ := upd_self v hS'
    have oth : ∀ b o, b ≠ S → s'.heap.get? b = some o → (s'.heap.update S (Obj.mapSeq (·.push v))).get? b = some o := fun b o hb e => (Heap.get?_update_other _ _ (Ne.symm hb)).trans e
    have hacc' : AccH F acc i s'.heap := ⟨hacc.1, fun j v hv => Fm j v _ _ (hacc.2 j v hv) fun b o h1 h2 _ e => hm.heap b o h1 h2 e⟩
    have acc2 := hacc'.push hF
    have acc3 : AccH F (acc.push v) (i + 1) (s'.heap.update S (Obj.mapSeq (·.push v))) := ⟨acc2.1, fun j v hv => Fm j v _ _ (acc2.2 j v hv) fun b o _ _ hb e => oth b o (fun eb => hb (by rw [eb, hS'] at e; cases e; rfl)) e⟩
    show wpAny _ A.in1 (updateSeq S (·.push v) >>= _) _ _ _
    refine wpAny_bind ?_
    refine wpAny_updateSeq hS' rfl (wpAny_pure ⟨plainId_quiet PySem.F.plain_extend_loop _, ih (i + 1) _ (acc.push v) c' (by omega) hlt (st'.keeps haN hcN fun b o hb e => oth b o (fun e' => Nat.lt_irrefl _ (Nat.lt_of_lt_of_le (e' ▸ hb) hSN)) e) hS'' acc3 fun s'' acc' c'' hk'' hg hd ho hSf haccf => ?_⟩)
      (by rw [hacc.1]; omega) (by show (acc.push v).size ≤ sizeLine + 1; rw [Array.size_push, hacc.1]; omega)
    exact hR s'' acc' c'' (fun b o h1 h2 h3 e => hk'' b o h1 h2 h3 (oth b o h3 (hm.heap b o h1 h2 e))) (fun h => hg (hm.gens h)) (hd.trans hm.drawn) (ho.trans hm.os) hSf haccf
end
end Mine
namespace Mine
open PySem PySem.W PyProof.Rows PySem.Calls
section
variable {prog : Program} {w : World} {A : Around} {E : Value → Shared → Prop} {s : Shared}
abbrev EndTup (F : Nat → Value → Heap → Prop) (C I n : Nat) (s s' : Shared) (acc : Array Value) : Prop :=
  (∀ b o, b ≠ C → b ≠ I → s.heap.get? b = some o → s'.heap.get? b = some o) ∧ (AllBare s.gens → AllBare s'.gens) ∧ s'.drawn = s.drawn ∧ s'.os = s.os ∧ AccH F acc n s'.heap
theorem collectH {Q : List Value → Shared → Prop} {a : Addr} {g C I N n : Nat} {F : Nat → Value → Heap → Prop} (hh : A.handled = none) (hroom : A.depth < recursionLimit) (haN : a < N) (hcN : cStatics < N) (hCN : C < N) (hIN : I < N)
    (haC : a ≠ C) (haI : a ≠ I) (hcC : cStatics ≠ C) (hcI : cStatics ≠ I) (Fm : ∀ i v h h', F i v h → (∀ b o, b ≠ C → b ≠ I → o.cls ≠ .type "list" → h.get? b = some o → h'.get? b = some o) → F i v h') (hn : n ≤ sizeLine)
    (st : GenH prog w A.in1 a g C I N n F 0 s) (hNs : N ≤ s.heap.objs.size) (hQ : ∀ s' acc, EndTup F C I n s s' acc → Q acc.toList s') : wpAny (model prog w) A (collect (.ref a)) Q E s := by
  have has : a < s.heap.objs.size := Nat.lt_of_lt_of_le haN hNs
  have hSa : s.heap.objs.size ≠ a := Nat.ne_of_gt has
  unfold collect
  refine wpAny_bind (wpAny_runValue (codeAny_builtin PySem.F.entry_proto_collect ?_))
  rw [Around.under_plainId PySem.F.plain_proto_collect _]
  show wpAny _ A.in1 (newList [] >>= fun l => again (.builtin "list.__iadd__" ⟨[l, .ref a], []⟩)) _ _ s
  refine wpAny_bind (wpAny_newObj_type ?_)
  refine wpAny_pure ⟨plainId_quiet PySem.F.plain_list_iadd _, codeAny_builtin PySem.F.entry_list_iadd ?_⟩
  rw [Around.under_plainId PySem.F.plain_list_iadd _]
  have st₁ : GenH prog w A.in1 a g C I N n F 0 { s with heap := s.heap.push { cls := .type "list", data := .seq ([] : List Value).toArray } } := st.keeps (tk := s.toks) haN hcN fun b o _ e => Heap.get?_push_of_some _ e
  show wpAny _ A.in1 (Builtin.List.listExtendWith (.ref s.heap.objs.size) (.ref a) (.ref s.heap.objs.size)) _ _ _
  unfold Builtin.List.listExtendWith
  refine wpAny_bind (wpAny_typeOf st₁.isgen.typeIs ?_)
  have h1 : Builtin.List.listSameRef (.ref s.heap.objs.size) (.ref a) = false := by simp [Builtin.List.listSameRef, hSa]
  have h2 : (Value.type "generator" == Value.type "list") = false := by decide
  have h3 : (Value.type "generator" == Value.type "tuple") = false := by decide
  simp only [h1, h2, h3, Bool.or_false, Bool.false_eq_true, if_false]
  refine wpAny_bind (wpAny_pyIter_gen st₁.isgen ?_)
  refine wpAny_bind (wpAny_holding ?_)
  unfold Builtin.List.listLengthHint
  refine wpAny_bind (wpAny_specialOf st₁.isgen.typeIs PySem.F.gen_no_len ?_)
  show wpAny _ A.in1 (specialOf (Value.ref a) (Str.ofString "__length_hint__") >>= _) _ _ _
  refine wpAny_bind (wpAny_specialOf st₁.isgen.typeIs PySem.F.gen_no_hint ?_)
  refine wpAny_pure ?_
  show wpAny _ A.in1 (rule "list.extend.makes-room" >>= fun _ => Builtin.List.listTouch (.ref s.heap.objs.size) >>= fun _ =>
    again (.builtin "list.extend.loop" ⟨[.ref s.heap.objs.size, .ref a, .ref s.heap.objs.size], []⟩)) _ _ _
  refine wpAny_bind (wpAny_rule ?_)
  have hS₁ : (s.heap.push { cls := .type "list", data := .seq ([] : List Value).toArray }).get? s.heap.objs.size = some { cls := .type "list", data := .seq ([] : List Value).toArray } := Heap.get?_push_size _ rfl
  refine wpAny_bind ?_
  show wpAny _ A.in1 (updateSeq s.heap.objs.size (·.push .none) >>= fun _ => updateSeq s.heap.objs.size (·.pop)) _ _ _
  refine wpAny_bind (wpAny_updateSeq hS₁ rfl ?_)
  have hS₂ := Heap.get?_update_self (Obj.mapSeq (·.push Value.none)) hS₁ rfl
  refine wpAny_updateSeq hS₂ rfl ?_
  have hS₃ := Heap.get?_update_self (Obj.mapSeq (·.pop)) hS₂ rfl
  have oth : ∀ b o, b ≠ s.heap.objs.size → (s.heap.push { cls := .type "list", data := .seq ([] : List Value).toArray }).get? b = some o →
      (((s.heap.push { cls := .type "list", data := .seq ([] : List Value).toArray }).update s.heap.objs.size (Obj.mapSeq (·.push Value.none))).update s.heap.objs.size (Obj.mapSeq (·.pop))).get? b = some o :=
    fun b o hb e => (Heap.get?_update_other _ _ (Ne.symm hb)).trans ((Heap.get?_update_other _ _ (Ne.symm hb)).trans e)
  refine wpAny_pure ⟨plainId_quiet PySem.F.plain_extend_loop _, loopH (S := s.heap.objs.size) hh hroom haN hcN hCN hIN haC haI hcC hcI Fm hn hNs _ n 0 _ _ _ (Nat.sub_zero _) (Nat.zero_le _)
    (st₁.keeps (tk := s.toks) haN hcN fun b o hb e => oth b o (fun h => Nat.lt_irrefl _ (Nat.lt_of_lt_of_le (h ▸ hb) hNs)) e) hS₃ (AccH.nil F _) fun s' acc' c' hk hg hd ho hS' hacc => ?_⟩
  show wpAny _ A (load s.heap.objs.size >>= _) _ _ s'
  refine wpAny_bind (wpAny_load hS' ?_)
  refine wpAny_pure (hQ s' acc' ⟨fun b o h1 h2 e => hk b o h1 h2 (Nat.ne_of_lt (Heap.lt_size e)) (oth b o (Nat.ne_of_lt (Heap.lt_size e)) (Heap.get?_push_of_some _ e)), hg, hd, ho, hacc⟩)

theorem tupNewH {Q₁ : Value → Shared → Prop} {a : Addr} {g C I N n : Nat} {F : Nat → Value → Heap → Prop} (hh : A.handled = none) (hroom : A.depth < recursionLimit) (haN : a < N) (hcN : cStatics < N) (hCN : C < N) (hIN : I < N)
    (haC : a ≠ C) (haI : a ≠ I) (hcC : cStatics ≠ C) (hcI : cStatics ≠ I) (Fm : ∀ i v h h', F i v h → (∀ b o, b ≠ C → b ≠ I → o.cls ≠ .type "list" → h.get? b = some o → h'.get? b = some o) → F i v h') (hn : n ≤ sizeLine)
    (st : GenH prog w A.in1.in1 a g C I N n F 0 s) (hNs : N ≤ s.heap.objs.size)
    (h : ∀ s' acc, EndTup F C I n s s' acc → Q₁ (.ref s'.heap.objs.size) { s' with heap := s'.heap.push { cls := .type "tuple", data := .seq acc } }) :
    codeAny (model prog w) A (.call (.builtin "tuple.__new__") ⟨[.type "tuple", .ref a], []⟩) (wants Q₁ E) s := by
  refine codeAny_of_tree ?_
  show wpAny _ A.in1 (do checkBuiltinCall "tuple.__new__" ⟨[.type "tuple", .ref a], []⟩; again (.builtin "tuple.__new__" ⟨[.type "tuple", .ref a], []⟩)) _ _ s
  refine wpAny_bind (wpAny_of_eq (PySem.F.newCall_tuple_1 _) (wpAny_pure ⟨plainId_quiet PySem.F.plain_tuple_new _, codeAny_builtin PySem.F.entry_tuple_new ?_⟩))
  rw [Around.under_plainId PySem.F.plain_tuple_new _]
  have hsub := PySem.sub_tuple_self
  have hinit := PySem.init_tuple_lookup
  have hmh := PySem.madeHere_tuple
  have hTI : s.TypeIs (.ref a) "generator" := st.isgen.typeIs
  wp_walk using wpAny_typeOf hTI, collectH (A := A.in1) hh hroom haN hcN hCN hIN haC haI hcC hcI Fm hn st hNs
  intro s' acc hm
  show wpAny _ _ (Builtin.Tuple.tupleExact acc.toList.toArray >>= fun v => ret v) _ _ _
  unfold Builtin.Tuple.tupleExact
  refine wpAny_bind (wpAny_newObj_type ?_ (by show acc.toList.toArray.size ≤ sizeLine; simp only [Array.toArray_toList]; rw [hm.2.2.2.2.1]; exact hn))
  refine wpAny_pure ?_
  have e : acc.toList.toArray = acc := by simp
  rw [e]
  exact h s' acc hm

theorem callTupH {Q : Value → Shared → Prop} {a : Addr} {g C I N n : Nat} {F : Nat → Value → Heap → Prop} (hh : A.handled = none) (hroom : A.depth < recursionLimit) (haN : a < N) (hcN : cStatics < N) (hCN : C < N) (hIN : I < N)
    (haC : a ≠ C) (haI : a ≠ I) (hcC : cStatics ≠ C) (hcI : cStatics ≠ I) (Fm : ∀ i v h h', F i v h → (∀ b o, b ≠ C → b ≠ I → o.cls ≠ .type "list" → h.get? b = some o → h'.get? b = some o) → F i v h') (hn : n ≤ sizeLine)
    (st : GenH prog w A.in1.in1.in1 a g C I N n F 0 s) (hNs : N ≤ s.heap.objs.size)
    (hQ : ∀ s' acc, EndTup F C I n s s' acc → Q (.ref s'.heap.objs.size) { s' with heap := s'.heap.push { cls := .type "tuple", data := .seq acc } }) :
    wpAny (model prog w) A (call (.type "tuple") [.ref a]) Q E s := by
  refine callType_codes (Q₁ := fun obj s₁ => s₁.TypeIs obj "tuple" ∧ Q obj s₁) PySem.F.called_tuple (PySem.F.typeCall_tuple_1 _) PySem.F.entry_object_init
    (tupNewH (A := A.in1) hh hroom haN hcN hCN hIN haC haI hcC hcI Fm hn st hNs fun s' acc hm => ⟨⟨_, Heap.get?_push_size _ rfl, rfl⟩, hQ s' acc hm⟩) fun obj s₁ h₁ => ?_
  exact ⟨h₁.1, PySem.F.args_object_init_2 obj _, object_init_meets PySem.F.called_tuple.init.lookup PySem.F.called_tuple.made (by decide) prog w A.in1 _ s₁ ⟨h₁.1, rfl, h₁.2⟩⟩
end
end Mine

end

section
namespace Mine
open PySem PySem.W PyProof.Rows PySem.Calls
abbrev tabO (ps : Array Value) : Obj := { cls := .none, data := .fields ps }
def TbOk (pos : Pos) (ps : Array Value) : Prop := ps = #[] ∨ ∃ c', ps = #[rawInt pos.line, rawInt pos.col, .ref c']
section
variable {M : Model} {A : Around} {E : Value → Shared → Prop} {s : Shared}
theorem genCode {env : Env} {c P : Addr} {ps : Array Value} {pos : Pos} {qn : Str} {scope : Scope} {Q : Value → Shared → Prop} {o : Obj} {vs : Array Value} {file : Str} {tf tg tt : Tok} {flags text : Int} {inF : Bool}
    (hc : env.code = .ref c) (ho : s.heap.get? c = some o) (hcls : o.cls = .type "code") (hd : o.data = .fields vs) (h11 : vs[11]? = some (.ref P)) (h18 : vs.getD 18 .none = .str file tf) (h7 : vs.getD 7 .none = .int flags tg) (h9 : vs.getD 9 .none = .bool inF) (h10 : vs.getD 10 .none = .int text tt) (hne : c ≠ P)
    (ht : s.heap.get? P = some (tabO ps)) (hps : TbOk pos ps)
    (hQ : ∀ c' h' tk ps', Heap.ExtBut P s.heap h' → h'.get? P = some (tabO ps') → TbOk pos ps' → s.heap.objs.size ≤ h'.objs.size → Q (.ref c') { s with heap := h', toks := tk }) :
    wpAny M A (genexprCode env pos qn scope) Q E s := by
  have h11' : vs.getD 11 .none = .ref P := by rw [Array.getD_eq_getD_getElem?, h11]; rfl
  rcases hps with rfl | ⟨c', rfl⟩
  · have hic : s.heap.IsCode c P #[] := ⟨o, vs, file, tf, flags, tg, inF, text, tt, _, ho, hd, h11', h18, h7, h9, h10, ht, rfl, trivial, hne⟩
    have hta : s.heap.TableAt c P #[] := ⟨⟨o, vs, ho, hcls, hd, h11⟩, ht⟩
    refine wpAny_genexprCodeX hc hic hta rfl fun c' h' tk hx hle hlt _ _ htab _ => ?_
    exact hQ c' h' tk _ hx htab.2 (.inr ⟨c', rfl⟩) (Nat.le_trans hle (Nat.le_of_lt hlt))
  · unfold genexprCode codeAt
    rw [hc, if_neg (show ¬ ((Value.ref c == Value.none) = true) from Bool.false_ne_true)]
    refine wpAny_bind (wpAny_fieldsOf ho hd ?_)
    rw [h11']
    refine wpAny_bind (wpAny_fieldsOf ht rfl ?_)
    have e : codeAmong pos (#[rawInt pos.line, rawInt pos.col, Value.ref c'] : Array Value).toList = some (.ref c') := by
      show (if (((pos.line : Int) == (pos.line : Int)) && ((pos.col : Int) == (pos.col : Int))) = true then some (Value.ref c') else _) = _
      simp
    rw [e]
    exact wpAny_pure (hQ c' s.heap s.toks _ (Heap.ExtBut.refl _ _) ht (.inr ⟨c', rfl⟩) (Nat.le_refl _))
end
end Mine
namespace Mine
open PySem PySem.W PyProof.Rows PySem.Calls
section
variable {prog : Program} {w : World}

structure Src (prog : Program) (w : World) (lx : Addr) (items : Array Value) (s : Shared) : Prop where
  lt : lx < s.heap.objs.size
  how : ∃ (itO : Obj) (St : Nat → Heap → Prop), itO.isFreed = false ∧ (∀ (A : Around) (E Q : Value → Shared → Prop), Q (.ref s.heap.objs.size) { s with heap := s.heap.push itO } → wpAny (model prog w) A (pyIter (.ref lx)) Q E s) ∧
    (∀ A' : Around, A'.handled = none → Walks prog w A' s.heap.objs.size [s.heap.objs.size, lx] [s.heap.objs.size] items.size (fun i v => items[i]? = some v) St) ∧ St 0 (s.heap.push itO)
theorem Src.list {lx : Addr} {items : Array Value} {s : Shared} (hl : s.heap.IsList lx items) : Src prog w lx items s := by
  have hlt : lx < s.heap.objs.size := by obtain ⟨_, e, _⟩ := hl; exact Heap.lt_size e
  exact ⟨hlt, _, _, rfl, fun A E Q h => wpAny_pyIter_list hl h, fun A' hA => Walks.list hA _ _ (Nat.ne_of_lt hlt) items, ⟨⟨_, Heap.get?_push_size _ rfl, rfl, rfl⟩, hl.push _⟩⟩
theorem Src.tuple {lx : Addr} {items : Array Value} {s : Shared} (hl : s.heap.IsTuple lx items) : Src prog w lx items s := by
  have hlt : lx < s.heap.objs.size := by obtain ⟨_, e, _⟩ := hl; exact Heap.lt_size e
  exact ⟨hlt, _, _, rfl, fun A E Q h => wpAny_pyIter_tuple hl h, fun A' hA => Walks.tuple hA _ _ (Nat.ne_of_lt hlt) items, ⟨⟨_, Heap.get?_push_size _ rfl, rfl, rfl⟩, (let ⟨o, e, r⟩ := hl; ⟨o, Heap.get?_push_of_some _ e, r⟩)⟩⟩

def FK (Φ : Nat → Value → List (Addr × Obj) → Prop) (N : Nat) (i : Nat) (y : Value) (h : Heap) : Prop := ∃ new : List (Addr × Obj), (∀ p ∈ new, h.get? p.1 = some p.2 ∧ N ≤ p.1 ∧ p.2.cls ≠ .type "list") ∧ Φ i y new

structure GenReady (prog : Program) (w : World) (A : Around) (g : Heap) (L : Addr) (m : Str → Option Value) (P : Addr) (pos : Pos) (led : List (Addr × Obj)) (n : Nat) (Φ : Nat → Value → List (Addr × Obj) → Prop) (s : Shared) (a gN C I N : Nat) (ps : Array Value) (s₅ : Shared) : Prop where
  gh : GenH prog w A.in1.in1.in1 a gN C I N n (FK Φ N) 0 s₅
  aN : N = a + 1
  sN : cStatics < N
  CN : C < N
  IN : I < N
  aC : a ≠ C
  aI : a ≠ I
  sC : cStatics ≠ C
  sI : cStatics ≠ I
  Ns : N ≤ s₅.heap.objs.size
  fr : Fr g L s₅.heap m
  nw : News g L s₅.heap ((P, tabO ps) :: led)
  tb : TbOk pos ps
  LC : L ≠ C
  LI : L ≠ I
  LN : L < N
  gC : ∀ b o, g.get? b = some o → b ≠ C ∧ b ≠ I ∧ b < N
  ledC : ∀ p ∈ (P, tabO ps) :: led, p.1 ≠ C ∧ p.1 ≠ I ∧ p.1 < N
  gens : AllBare s.gens → AllBare s₅.gens
  os : s₅.os = s.os

theorem tupReady {A : Around} {g : Heap} {L : Addr} {m : Str → Option Value} {P : Addr} {pos : Pos} {led : List (Addr × Obj)} {Φ : Nat → Value → List (Addr × Obj) → Prop} {s : Shared} {a gN C I N : Nat} {ps : Array Value} {s₅ : Shared} {Q E : Value → Shared → Prop}
    (hh : A.handled = none) (hroom : A.depth < recursionLimit) (R : GenReady prog w A g L m P pos led 2 Φ s a gN C I N ps s₅)
    (hQ : ∀ T y0 y1 new0 new1 s', Fr g L s'.heap m → News g L s'.heap ((T, { cls := .type "tuple", data := .seq #[y0, y1] }) :: (new1 ++ (new0 ++ ((P, tabO ps) :: led)))) → Φ 0 y0 new0 → Φ 1 y1 new1 → (AllBare s₅.gens → AllBare s'.gens) → s'.os = s₅.os →
      (∀ b ∈ (P, tabO ps) :: led, b.1 < T ∧ (∀ r ∈ new0, b.1 < r.1) ∧ ∀ r ∈ new1, b.1 < r.1) → (∀ r ∈ new0, r.1 < T) → (∀ r ∈ new1, r.1 < T) → Q (.ref T) s') :
    wpAny (model prog w) A (call (.type "tuple") [.ref a]) Q E s₅ := by
  refine callTupH hh hroom (R.aN ▸ Nat.lt_succ_self a) R.sN R.CN R.IN R.aC R.aI R.sC R.sI (fun i v h h' hF hk => ?_) (by size_fits) R.gh R.Ns fun s' acc hm => ?_
  · obtain ⟨new, hn, hΦ⟩ := hF
    exact ⟨new, fun p hp => ⟨hk _ _ (Nat.ne_of_gt (Nat.lt_of_lt_of_le R.CN (hn p hp).2.1)) (Nat.ne_of_gt (Nat.lt_of_lt_of_le R.IN (hn p hp).2.1)) (hn p hp).2.2 (hn p hp).1, (hn p hp).2⟩, hΦ⟩
  · obtain ⟨hk, hg, hd, ho, hsz, hacc⟩ := hm
    obtain ⟨y0, y1, rfl⟩ : ∃ y0 y1, acc = #[y0, y1] := by
      obtain ⟨l⟩ := acc
      match l, hsz with
      | [y0, y1], _ => exact ⟨y0, y1, rfl⟩
    obtain ⟨new0, hn0, hΦ0⟩ := hacc 0 y0 rfl
    obtain ⟨new1, hn1, hΦ1⟩ := hacc 1 y1 rfl
    have up : ∀ b o, b ≠ C → b ≠ I → s₅.heap.get? b = some o → (s'.heap.push { cls := .type "tuple", data := .seq #[y0, y1] }).get? b = some o := fun b o h1 h2 e => Heap.get?_push_of_some _ (hk b o h1 h2 e)
    have hT : ∀ b o, s'.heap.get? b = some o → b < s'.heap.objs.size := fun b o e => Heap.lt_size e
    have Lobj : ∃ o, s₅.heap.get? L = some o := let ⟨o, _, _, e, _⟩ := R.fr.ns; ⟨o, e⟩
    have hNT : N ≤ s'.heap.objs.size := by
      obtain ⟨o, nm, qn, e, _⟩ := R.gh.isgen
      rw [R.aN]
      exact hT a o (hk a o R.aC R.aI e)
    have fresh : g.get? s'.heap.objs.size = none := by
      cases e : g.get? s'.heap.objs.size with
      | none => rfl
      | some o => exact absurd (R.gC _ o e).2.2 (Nat.not_lt.mpr hNT)
    have gN : ∀ b, N ≤ b → g.get? b = none := fun b hb => by
      cases e : g.get? b with
      | none => rfl
      | some o => exact absurd (R.gC _ o e).2.2 (Nat.not_lt.mpr hb)
    refine hQ _ y0 y1 new0 new1 _ ⟨R.fr.ns.at' fun o e => up L o R.LC R.LI e, fun b o e => up b o (R.gC b o e).1 (R.gC b o e).2.1 (R.fr.keep b o e), R.fr.above⟩ ?_ hΦ0 hΦ1 hg ho ?_ ?_ ?_
    · intro p hp
      rcases List.mem_cons.mp hp with rfl | hp
      · exact ⟨Heap.get?_push_size _ rfl, Nat.ne_of_gt (Nat.lt_of_lt_of_le R.LN hNT), fresh⟩
      rcases List.mem_append.mp hp with hp | hp
      · exact ⟨Heap.get?_push_of_some _ (hn1 p hp).1, Nat.ne_of_gt (Nat.lt_of_lt_of_le R.LN (hn1 p hp).2.1), gN _ (hn1 p hp).2.1⟩
      rcases List.mem_append.mp hp with hp | hp
      · exact ⟨Heap.get?_push_of_some _ (hn0 p hp).1, Nat.ne_of_gt (Nat.lt_of_lt_of_le R.LN (hn0 p hp).2.1), gN _ (hn0 p hp).2.1⟩
      · exact ⟨up _ _ (R.ledC p hp).1 (R.ledC p hp).2.1 (R.nw p hp).1, (R.nw p hp).2⟩
    · intro b hb
      have hbN := (R.ledC b hb).2.2
      exact ⟨Nat.lt_of_lt_of_le hbN hNT, fun r hr => Nat.lt_of_lt_of_le hbN (hn0 r hr).2.1, fun r hr => Nat.lt_of_lt_of_le hbN (hn1 r hr).2.1⟩
    · exact fun r hr => hT _ _ (hn0 r hr).1
    · exact fun r hr => hT _ _ (hn1 r hr).1
end
end Mine
namespace Mine
open PySem PySem.W PyProof.Rows PySem.Calls
section
variable {prog : Program} {w : World}
theorem eqN {a b : Nat} (h : a = b) : @Eq Nat a b := h
theorem hideAll_in {h : Heap} {l : List Addr} {b : Addr} {o : Obj} (e : (hideAll h l).get? b = some o) : h.get? b = some o ∧ b ∉ l := ⟨of_hideAll l e, fun hm => by rw [hideAll_none l hm] at e; cases e⟩

theorem genEval {A A₀ : Around} {base g : Heap} {outer : List Env} {env : Env} {L : Addr} {m : Str → Option Value} {P c lx : Addr} {pos : Pos} {ps : Array Value} {led : List (Addr × Obj)} {Φ : Nat → Value → List (Addr × Obj) → Prop} {s : Shared} {items : Array Value}
    {mg : Str → Option Value} {bm : Addr} {ob : Obj} {elt iter : Expr} {x : Str} {px : Pos} {scope : Scope} {cl : List (Str × Addr)} {Q E : Value → Shared → Prop} {o : Obj} {vs : Array Value} {file : Str} {tf tg tt : Tok} {flags text : Int} {inF : Bool}
    (B : Below A₀ base outer g) (F : Fr g L s.heap m) (N : News g L s.heap ((P, tabO ps) :: led)) (hPn : ∀ p ∈ led, p.1 ≠ P) (hps : TbOk pos ps) (hlim : g.NoLimit) (M : BMod g env.globals mg bm ob) (hA : A.frames = some (env :: outer)) (hf : env.frame = some L) (hke : env.scope.kind = .function)
    (hh : A.handled = none) (hroom : A.depth < recursionLimit)
    (hc : env.code = .ref c) (hco' : g.get? c = some o) (hcls : o.cls = .type "code") (hd : o.data = .fields vs) (h11 : vs[11]? = some (.ref P)) (h18 : vs.getD 18 .none = .str file tf) (h7 : vs.getD 7 .none = .int flags tg) (h9 : vs.getD 9 .none = .bool inF) (h10 : vs.getD 10 .none = .int text tt)
    (hco : scope.isCoroutine = false) (hclos : closureFor scope env = pure cl) (hcell : ∀ y ∈ scope.names, y.2 ≠ .cell) (h0 : scope.names.lookup (".0" : Str) = some NameKind.local) (hx : scope.names.lookup x = some .local) (hkind : scope.kind = .function)
    (hiter : ∀ Q' : Value → Shared → Prop, Q' (.ref lx) s → wpAny (model prog w) A (eval iter env) Q' E s) (S : Src prog w lx items s) (hlP : lx ≠ P) (hs : ∀ x, genFold iter env x = pure x)
    (helt : ∀ (dp un : Nat) (gd : Option (List Code)) (c' C : Addr) (gB : Heap) (ledU : List (Addr × Obj)) (u : Shared) (m₂ : Str → Option Value) (i : Nat) (v : Value) (E' : Value → Shared → Prop), dp = A.depth + 1 → un = A.units + 7 → items[i]? = some v →
      Below { handled := none, depth := dp, frames := some (env :: outer), guards := gd, units := un } base (env :: outer) gB → g.StaysIn gB → Fr gB C u.heap m₂ → m₂ x = some v → News gB C u.heap ledU → (∀ p ∈ led, p ∈ ledU) →
      wpAny (model prog w) { handled := none, depth := dp, frames := some (genEnv scope cl C (.ref c') builtinsNs env :: env :: outer), guards := gd, units := un } (eval elt (genEnv scope cl C (.ref c') builtinsNs env))
        (fun y s' => ∃ new, Fr gB C s'.heap m₂ ∧ News gB C s'.heap (new ++ ledU) ∧ (∃ h' tk, s' = { u with heap := h', toks := tk }) ∧ (∀ b ∈ ledU, ∀ r ∈ new, b.1 < r.1) ∧ (∀ r ∈ new, r.2.cls ≠ .type "list") ∧ Φ i y new) E' u)
    (hQ : ∀ a gN C I N ps' s₅, GenReady prog w A g L m P pos led items.size Φ s a gN C I N ps' s₅ → Q (.ref a) s₅) :
    wpAny (model prog w) A (eval (.GeneratorExp elt [⟨.Name x px, iter, [], 0⟩] scope pos) env) Q E s := by
  obtain ⟨hlt, itO, St, hfr, hmk, hW, hst⟩ := S
  have gkeep := F.keep
  have gP : g.get? P = none := (N _ (.head _)).2.2
  have PL : P ≠ L := (N _ (.head _)).2.1
  have hPs : s.heap.get? P = some (tabO ps) := (N _ (.head _)).1
  have hcP : c ≠ P := fun e => by rw [e, gP] at hco'; cases hco'
  refine wpAny_GeneratorExp_make hco hclos hcell h0 hkind hroom (hiter _ (hmk _ _ _ ⟨(hlim.keeps gkeep).push _, ?_⟩)) hs
  have up₂ : ∀ b o, s.heap.get? b = some o → (s.heap.push itO).get? b = some o := fun b o e => Heap.get?_push_of_some _ e
  refine genCode hc (up₂ _ _ (gkeep _ _ hco')) hcls hd h11 h18 h7 h9 h10 hcP (up₂ _ _ hPs) hps fun c' h₃ tk₃ ps' hx₃ hP₃ hps' hsz₃ => ?_
  have hI₃ : h₃.get? s.heap.objs.size = some itO := hx₃ _ _ (Nat.ne_of_gt (Heap.lt_size hPs)) (Heap.get?_push_size _ hfr)
  have up₃ : ∀ b o, b ≠ P → s.heap.get? b = some o → h₃.get? b = some o := fun b o hb e => hx₃ b o hb (up₂ b o e)
  have gP' : ∀ b o, g.get? b = some o → b ≠ P := fun b o e q => by rw [q, gP] at e; cases e
  have g₃ : ∀ b o, g.get? b = some o → h₃.get? b = some o := fun b o e => up₃ b o (gP' b o e) (gkeep b o e)
  have M₃ : BMod h₃ env.globals mg bm ob := M.keeps g₃
  refine wpAny_builtinsFor M₃.ns M₃.name M₃.ne M₃.obj M₃.cls M₃.dict M₃.data ?_
  intro h' hn' hs'
  have hsz₂ : s.heap.objs.size + 1 ≤ h₃.objs.size := by have := hsz₃; rw [Heap.size_push] at this; exact this
  have hsz' : h'.objs.size = h₃.objs.size + 1 := by rw [hs'.1, Heap.size_push]
  have keep' : ∀ b o, h₃.get? b = some o → h'.get? b = some o := fun b o e => hs'.extBut b o (Nat.ne_of_lt (Heap.lt_size e)) (Heap.get?_push_of_some _ e)
  have hlim₃ : h₃.NoLimit := hlim.keeps g₃
  have hs3 : cStatics < h₃.objs.size := let ⟨_, hn, _⟩ := hlim₃; hn.lt
  have hsg : cStatics < s.heap.objs.size := let ⟨_, hn, _⟩ := hlim.keeps gkeep; hn.lt
  have Lobj : ∃ o, s.heap.get? L = some o := let ⟨o, _, _, e, _⟩ := F.ns; ⟨o, e⟩
  obtain ⟨oL, hL⟩ := Lobj
  have F₃ : Fr g L h₃ m := ⟨F.ns.at' fun o e => up₃ L o (Ne.symm PL) e, g₃, F.above⟩
  have N₃ : News g L h₃ ((P, tabO ps') :: led) := fun p hp => by
    rcases List.mem_cons.mp hp with rfl | hp
    · exact ⟨hP₃, PL, gP⟩
    · exact ⟨up₃ _ _ (hPn p hp) (N p (.tail _ hp)).1, (N p (.tail _ hp)).2⟩
  have gI : g.get? s.heap.objs.size = none := by
    cases e : g.get? s.heap.objs.size with
    | none => rfl
    | some o => exact absurd (Heap.lt_size (gkeep _ _ e)) (Nat.lt_irrefl _)
  have N₃' : News g L h₃ ((s.heap.objs.size, itO) :: (P, tabO ps') :: led) := fun p hp => by
    rcases List.mem_cons.mp hp with rfl | hp
    · exact ⟨hI₃, Nat.ne_of_gt (Heap.lt_size hL), gI⟩
    · exact N₃ p hp
  have gr : ∀ s₃ : Shared, s₃.heap = h₃ → ∀ A' : Around, A'.frames = some (env :: outer) → Fr g L (hideAll h₃ (((s.heap.objs.size, itO) :: (P, tabO ps') :: led).map (·.1))) m ∧ Below A' base (env :: outer) (hideAll h₃ (((s.heap.objs.size, itO) :: (P, tabO ps') :: led).map (·.1))) ∧ g.StaysIn (hideAll h₃ (((s.heap.objs.size, itO) :: (P, tabO ps') :: led).map (·.1))) := by
    rintro s₃ rfl A' hA'
    obtain ⟨a1, a2, a3, _⟩ := groundX (R := fun _ _ => True) B F₃ N₃' hA' hf hke
    exact ⟨a1, a2, a3⟩
  generalize hgB : hideAll h₃ (((s.heap.objs.size, itO) :: (P, tabO ps') :: led).map (·.1)) = gB at gr
  have gBsz : gB.objs.size = h₃.objs.size := by rw [← hgB, hideAll_size]
  have gBin : ∀ b o, gB.get? b = some o → h₃.get? b = some o ∧ b ∉ ((s.heap.objs.size, itO) :: (P, tabO ps') :: led).map (·.1) := fun b o e => by rw [← hgB] at e; exact hideAll_in e
  have gBno : ∀ p ∈ (s.heap.objs.size, itO) :: (P, tabO ps') :: led, gB.get? p.1 = none := fun p hp => by rw [← hgB]; exact hideAll_none _ (List.mem_map_of_mem hp)
  have gBhas : ∀ b o, h₃.get? b = some o → b ∉ ((s.heap.objs.size, itO) :: (P, tabO ps') :: led).map (·.1) → gB.get? b = some o := fun b o e hb => by rw [← hgB]; exact hideAll_get _ e hb
  refine hQ h'.objs.size s.gens.size h₃.objs.size s.heap.objs.size (h'.objs.size + 1) ps' _ ?_
  have keep₅ : ∀ b o, h₃.get? b = some o → (h'.push { cls := .type "generator", data := .fields #[.int s.gens.size 0, .str "<genexpr>" (tk₃ + 1), .str (env.qual ++ "<genexpr>") (tk₃ + 1 + 1)] }).get? b = some o :=
    fun b o e => Heap.get?_push_of_some _ (keep' b o e)
  have CI : h₃.objs.size ≠ s.heap.objs.size := by omega
  refine ⟨⟨⟨_, _, _, Heap.get?_push_size _ rfl, rfl, rfl, rfl⟩, hlim₃.keeps keep₅, _, Array.getElem?_push_size .., fun s'' hal => ⟨rfl, ?_⟩⟩, rfl, Nat.lt_of_lt_of_le hs3 (by omega), ltN (by omega), ltN (by omega), neN (by omega), neN (by omega), Nat.ne_of_lt hs3, Nat.ne_of_lt hsg,
    (by rw [Heap.size_push]; exact Nat.le_refl _), F₃.keeps keep₅, N₃.grown keep₅, hps', ?_, ?_, ?_, ?_, ?_, fun G => G.push rfl, rfl⟩
  · refine segStartH (A := A.in1.in1.in1.in1) (cenv := genEnv scope cl h₃.objs.size (.ref c') builtinsNs env) (m := fun y => if y = ".0" then some (.ref s.heap.objs.size) else none) (href := h'.push { cls := .type "generator", data := .fields #[.int s.gens.size 0, .str "<genexpr>" (tk₃ + 1), .str (env.qual ++ "<genexpr>") (tk₃ + 1 + 1)] }) hh hW hx (by simp [genEnv, hkind]) hco ?_ (by show h₃.objs.size < _; omega) ?_ ⟨?_⟩ s'' ?_ ?_ ?_
    · intro b hb
      have hlx : @LT.lt Nat _ lx s.heap.objs.size := hlt
      rcases List.mem_cons.mp hb with rfl | hb
      · exact ltN (by omega)
      · rw [List.mem_singleton.mp hb]; exact ltN (by omega)
    · intro hb
      rcases List.mem_cons.mp hb with e | hb
      · exact CI e
      · have q := eqN (show h₃.objs.size = lx from List.mem_singleton.mp hb)
        have hlx : @LT.lt Nat _ lx s.heap.objs.size := hlt
        omega
    · intro A' E' i v u m₂ a1 a2 a3 a4 hv hn₂ hm₂ hkp
      obtain ⟨hd', dp, fr', gd, un⟩ := A'
      dsimp only at a1 a2 a3 a4
      subst a1
      have a4' : fr' = some (genEnv scope cl h₃.objs.size (.ref c') builtinsNs env :: env :: outer) := by rw [a4]; show A.frames.map _ = _; rw [hA]; rfl
      subst a4'
      obtain ⟨FG, BG, st⟩ := gr ⟨h₃, s.gens, s.drawn, tk₃, s.os⟩ rfl { handled := none, depth := dp, frames := some (env :: outer), guards := gd, units := un } rfl
      have uB : ∀ b o, gB.get? b = some o → u.heap.get? b = some o := fun b o e => by
        have e3 := gBin b o e
        have hlt3 := PySem.W.ltN (Heap.lt_size e3.1)
        refine hkp b o (ltN (by omega)) (fun q => e3.2 (by rw [q]; exact .head _)) (fun q => ?_) (keep₅ b o e3.1)
        have q' := eqN (show b = h₃.objs.size from q)
        omega
      have FC : Fr gB h₃.objs.size u.heap m₂ := ⟨hn₂, uB, Nat.le_of_eq gBsz⟩
      have hz : ∃ zs : List (Addr × Obj), ∀ p : Addr × Obj, p ∈ zs ↔ p.1 ≠ h₃.objs.size ∧ gB.get? p.1 = none ∧ u.heap.get? p.1 = some p.2 := by
        refine ⟨(List.range u.heap.objs.size).filterMap fun b => if b ≠ h₃.objs.size ∧ gB.get? b = none then (u.heap.get? b).map fun o => (b, o) else none, fun p => ?_⟩
        rw [List.mem_filterMap]
        constructor
        · rintro ⟨b, _, hb⟩
          split at hb
          · rename_i q
            cases e : u.heap.get? b with
            | none => rw [e] at hb; cases hb
            | some o => rw [e] at hb; cases hb; exact ⟨q.1, q.2, e⟩
          · cases hb
        · rintro ⟨h1, h2, h3⟩
          exact ⟨p.1, List.mem_range.mpr (Heap.lt_size h3), by rw [if_pos ⟨h1, h2⟩, h3]; rfl⟩
      obtain ⟨zs, hzs⟩ := hz
      have NZ : News gB h₃.objs.size u.heap zs := fun p hp => ⟨((hzs p).mp hp).2.2, ((hzs p).mp hp).1, ((hzs p).mp hp).2.1⟩
      have inled : ∀ p ∈ led, p ∈ zs := fun p hp => by
        have hlt := PySem.W.ltN (Heap.lt_size (N p (.tail _ hp)).1)
        refine (hzs p).mpr ⟨neN (by omega), gBno p (.tail _ (.tail _ hp)), hkp p.1 p.2 (ltN (by omega)) (neN (by omega)) (fun q => ?_) (keep₅ _ _ (N₃ p (.tail _ hp)).1)⟩
        have q' := eqN (show p.1 = h₃.objs.size from q)
        omega
      have ina : ∃ o, (h'.objs.size, o) ∈ zs := by
        refine ⟨_, (hzs _).mpr ⟨neN (by dsimp only; omega), ?_, hkp h'.objs.size _ (ltN (by omega)) (neN (by omega)) (fun q => ?_) (Heap.get?_push_size _ rfl)⟩⟩
        · exact Heap.get?_none_of_le (by rw [gBsz]; show h₃.objs.size ≤ h'.objs.size; omega)
        · have q' := eqN (show h'.objs.size = h₃.objs.size from q)
          omega
      refine wpAny_mono (helt dp un gd c' h₃.objs.size gB zs u m₂ i v E' a2 a3 hv BG st FC hm₂ NZ inled) (fun y s' hy => ?_) fun _ _ e => e
      obtain ⟨new, F', N', ⟨h₆, tk₆, rfl⟩, hord, hcl, hΦ⟩ := hy
      obtain ⟨oa, hoa⟩ := ina
      refine ⟨⟨new, fun p hp => ⟨(N' p (List.mem_append_left _ hp)).1, hord _ hoa p hp, hcl p hp⟩, hΦ⟩, h₆, tk₆, m₂, rfl, fun b o hb e => ?_, F'.ns⟩
      cases eb : gB.get? b with
      | some o' =>
        have := uB b o' eb
        rw [e] at this
        cases this
        exact F'.keep b o eb
      | none => exact (N' (b, o) (List.mem_append_right _ ((hzs _).mpr ⟨hb, eb, e⟩))).1
    · have : (hW A hh).frame = (hW A hh).frame := rfl
      refine (hW A hh).frame _ _ _ hst fun b hb o e => hal b o ?_ (keep₅ b o ?_)
      · have := PySem.W.ltN (Heap.lt_size e)
        rw [Heap.size_push] at this
        exact ltN (by omega)
      · refine hx₃ b o ?_ e
        rintro rfl
        rcases List.mem_cons.mp hb with q | hb
        · exact absurd (ltN (Heap.lt_size hPs)) (by have := eqN q; omega)
        · exact hlP (List.mem_singleton.mp hb).symm
    · exact (hn'.push _).at' fun o e => hal _ o (show @LT.lt Nat _ h₃.objs.size (h'.objs.size + 1) by omega) e
    · exact fun b o h1 _ _ e => hal b o h1 e
  · have := PySem.W.ltN (Heap.lt_size hL); exact neN (by omega)
  · have := PySem.W.ltN (Heap.lt_size hL); exact neN (by omega)
  · have := PySem.W.ltN (Heap.lt_size hL); exact ltN (by omega)
  · intro b o e
    have := PySem.W.ltN (Heap.lt_size (gkeep b o e))
    exact ⟨neN (by omega), neN (by omega), ltN (by omega)⟩
  · intro p hp
    have hlt : @LT.lt Nat _ p.1 s.heap.objs.size := by
      rcases List.mem_cons.mp hp with rfl | hp
      · exact Heap.lt_size hPs
      · exact Heap.lt_size (N p (.tail _ hp)).1
    exact ⟨neN (by omega), neN (by omega), ltN (by omega)⟩
end
end Mine

end

section
namespace Mine
open PySem PySem.W PyProof.Rows PySem.Calls

abbrev FqR (C : Addr) (h₀ : Heap) (L : Addr) (m : Str → Option Value) (news : List (Addr × Obj)) (s : Shared) (Q : Value → Shared → Prop) (e q : Int) : Prop :=
  ∀ n x d k1 k2 t1 t2 t3 t4 h' tk', n = e → 0 ≤ n → n < q → Fr h₀ L h' m → News h₀ L h' ((x, instObj C d) :: (d, dictOf [⟨k1, .str "field_modulus" t1, .int q t2⟩, ⟨k2, .str "n" t3, .int n t4⟩] 2) :: news) →
    (∀ p ∈ news, p.1 < d) → d < x → Q (.ref x) { s with heap := h', toks := tk' }
theorem fqR {C : Addr} {h₀ h' : Heap} {L x d : Addr} {m : Str → Option Value} {news : List (Addr × Obj)} {s : Shared} {Q : Value → Shared → Prop} {e n' q : Int} {k1 k2 : Int} {t1 t2 t3 t4 : Tok} {tk' : Nat} (hret : FqR C h₀ L m news s Q (Int.fmod e q) q) (hq : 0 < q)
    (F : Fr h₀ L h' m) (N : News h₀ L h' ((x, instObj C d) :: (d, dictOf [⟨k1, .str "field_modulus" t1, .int q t2⟩, ⟨k2, .str "n" t3, .int n' t4⟩] 2) :: news)) (l1 : ∀ p ∈ news, p.1 < d) (l2 : d < x) (hn : n' = Int.fmod e q) : Q (.ref x) { s with heap := h', toks := tk' } :=
  hret n' x d k1 k2 t1 t2 t3 t4 h' tk' hn (by rw [hn]; exact fm_lo _ hq) (by rw [hn]; exact fm_hi _ hq) F N l1 l2
theorem fqRid {C : Addr} {h₀ h' : Heap} {L x d : Addr} {m : Str → Option Value} {news : List (Addr × Obj)} {s : Shared} {Q : Value → Shared → Prop} {n n' q : Int} {k1 k2 : Int} {t1 t2 t3 t4 : Tok} {tk' : Nat} (hret : FqR C h₀ L m news s Q n q) (h0 : 0 ≤ n) (h1 : n < q)
    (F : Fr h₀ L h' m) (N : News h₀ L h' ((x, instObj C d) :: (d, dictOf [⟨k1, .str "field_modulus" t1, .int q t2⟩, ⟨k2, .str "n" t3, .int n' t4⟩] 2) :: news)) (l1 : ∀ p ∈ news, p.1 < d) (l2 : d < x) (hn : n' = n) : Q (.ref x) { s with heap := h', toks := tk' } :=
  hret n' x d k1 k2 t1 t2 t3 t4 h' tk' hn (by rw [hn]; exact h0) (by rw [hn]; exact h1) F N l1 l2
theorem mem_tl {α : Type} {a b : α} {l : List α} (h : a ∈ l) : a ∈ b :: l := List.mem_cons_of_mem _ h
abbrev tupO (vs : Array Value) : Obj := { cls := .type "tuple", data := .seq vs }

def CoefIn (C : Addr) (led : List (Addr × Obj)) (v : Value) (n q : Int) : Prop := (∃ t, v = .int n t) ∨ FqIn C led v n q
section
variable {M : Model} {A : Around} {E : Value → Shared → Prop} {s : Shared} {h₀ : Heap} {C : Addr} {m : Str → Option Value} {scope : Scope} {cl : List (Str × Addr)} {cd : Value} {bi : Addr} {env : Env}
  {x : Str} {v : Value} {pos : Pos} {Q : Value → Shared → Prop} {news : List (Addr × Obj)} {c : Addr} {o : Obj}
theorem gen_loc (F : Fr h₀ C s.heap m) (hv : m x = some v) (h : Q v s) (hk : scope.kind = .function) (hx : (genEnv scope cl C cd bi env).kindOf x = some .local) (hb : (x == ("__debug__" : Str)) = false) :
    wpAny M A (eval (.Name x pos) (genEnv scope cl C cd bi env)) Q E s := wpAny_Name (wpAny_loadName_local hk hx F.ns hv h) hb
theorem gen_free (N : News h₀ C s.heap news) (hc : cl.lookup x = some c) (hm : (c, o) ∈ news) (hd : o.data = .cell (some v)) (h : Q v s)
    (hk : scope.kind = .function) (hx : (genEnv scope cl C cd bi env).kindOf x = some .free) (hb : (x == ("__debug__" : Str)) = false) (hn : (x == ("__classdict__" : Str)) = false) :
    wpAny M A (eval (.Name x pos) (genEnv scope cl C cd bi env)) Q E s := wpAny_Name (wpAny_loadName_free hk hx hc ⟨o, N.get hm, hd⟩ h hn) hb
end
end Mine

end

section
namespace Mine
open PySem PySem.W PyProof.Rows PySem.Calls
def CoefB (C : Addr) (led : List (Addr × Obj)) (v : Value) (n q : Int) : Prop := (-1000000 < n ∧ n < 1000000) ∧ ((∃ t, v = .int n t) ∨ (FqIn C led v n q ∧ 0 ≤ n ∧ n < q))
theorem CoefB.mono {C : Addr} {led led' : List (Addr × Obj)} {v : Value} {n q : Int} (h : CoefB C led v n q) (k : ∀ p ∈ led, p ∈ led') : CoefB C led' v n q := ⟨h.1, h.2.imp id fun h => ⟨h.1.mono k, h.2⟩⟩
theorem two_items {v0 v1 v : Value} {i : Nat} (h : (#[v0, v1] : Array Value)[i]? = some v) : (i = 0 ∧ v = v0) ∨ (i = 1 ∧ v = v1) := by
  match i with
  | 0 => exact .inl ⟨rfl, by cases h; rfl⟩
  | 1 => exact .inr ⟨rfl, by cases h; rfl⟩
  | i + 2 => simp at h
def nth2 (u v : Int) (i : Nat) : Int := if i = 0 then u else v
theorem coef_at {C : Addr} {led : List (Addr × Obj)} {v0 v1 y : Value} {u v q : Int} {i : Nat} (h0 : CoefB C led v0 u q) (h1 : CoefB C led v1 v q) (hi : (#[v0, v1] : Array Value)[i]? = some y) : ∃ n, n = nth2 u v i ∧ CoefB C led y n q := by
  rcases two_items hi with ⟨rfl, rfl⟩ | ⟨rfl, rfl⟩
  · exact ⟨_, rfl, h0⟩
  · exact ⟨_, rfl, h1⟩
def PhiF (C : Addr) (u v q : Int) (i : Nat) (y : Value) (new : List (Addr × Obj)) : Prop :=
  ∃ x d k1 k2 t1 t2 t3 t4 n, y = .ref x ∧ new = [(x, instObj C d), (d, dictOf [⟨k1, .str "field_modulus" t1, .int q t2⟩, ⟨k2, .str "n" t3, .int n t4⟩] 2)] ∧ n = Int.fmod (nth2 u v i) q ∧ d < x
def PhiI (u v q : Int) (i : Nat) (y : Value) (new : List (Addr × Obj)) : Prop := new = [] ∧ ∃ t, y = .int (Int.fmod (nth2 u v i) q) t
theorem isi_cls {C d : Addr} : (instObj C d).cls ≠ .type "list" := by intro h; cases h
theorem dict_cls {es : List DictEntry} {n : Nat} : (dictOf es n).cls ≠ .type "list" := by
  intro h
  have h : Value.type "dict" = Value.type "list" := h
  injection h with h
  exact absurd h (by decide)
section
variable {prog : Program} {w : World}
def EltPost (G : Addr) (gB : Heap) (ledU : List (Addr × Obj)) (u : Shared) (m₂ : Str → Option Value) (Φ : Nat → Value → List (Addr × Obj) → Prop) (i : Nat) (y : Value) (s' : Shared) : Prop :=
  ∃ new, Fr gB G s'.heap m₂ ∧ News gB G s'.heap (new ++ ledU) ∧ (∃ h' tk, s' = { u with heap := h', toks := tk }) ∧ (∀ b ∈ ledU, ∀ r ∈ new, b.1 < r.1) ∧ (∀ r ∈ new, r.2.cls ≠ .type "list") ∧ Φ i y new
theorem eltStart {M : Model} {A : Around} {t : Sem Value} {E' : Value → Shared → Prop} {G : Addr} {gB : Heap} {ledU : List (Addr × Obj)} {u : Shared} {m₂ : Str → Option Value} {Φ : Nat → Value → List (Addr × Obj) → Prop} {i : Nat} (h : wpAny M A t (EltPost G gB ledU u m₂ Φ i) E' u) :
    wpAny M A t (fun y s' => ∃ new, Fr gB G s'.heap m₂ ∧ News gB G s'.heap (new ++ ledU) ∧ (∃ h' tk, s' = { u with heap := h', toks := tk }) ∧ (∀ b ∈ ledU, ∀ r ∈ new, b.1 < r.1) ∧ (∀ r ∈ new, r.2.cls ≠ .type "list") ∧ Φ i y new) E' u := h

theorem eltF {C G : Addr} {gB : Heap} {ledU : List (Addr × Obj)} {u₀ : Shared} {m₂ : Str → Option Value} {a b q e n k : Int} {i : Nat} {x d : Addr} {k1 k2 : Int} {t1 t2 t3 t4 : Tok} {h' : Heap} {tk' : Nat}
    (F' : Fr gB G h' m₂) (N' : News gB G h' ((x, instObj C d) :: (d, dictOf [⟨k1, .str "field_modulus" t1, .int q t2⟩, ⟨k2, .str "n" t3, .int n t4⟩] 2) :: ledU)) (l1 : ∀ p ∈ ledU, p.1 < d) (l2 : d < x) (he : n = e) (hn : e = Int.fmod k q) (hk : k = nth2 a b i) :
    EltPost G gB ledU u₀ m₂ (PhiF C a b q) i (.ref x) { u₀ with heap := h', toks := tk' } := by
  refine ⟨[(x, instObj C d), (d, dictOf [⟨k1, .str "field_modulus" t1, .int q t2⟩, ⟨k2, .str "n" t3, .int n t4⟩] 2)], F', N', ⟨_, _, rfl⟩, ?_, ?_, ⟨_, _, _, _, _, _, _, _, _, rfl, rfl, he.trans (hk ▸ hn), l2⟩⟩
  · intro b hb r hr
    rcases List.mem_cons.mp hr with rfl | hr
    · exact Nat.lt_trans (l1 b hb) l2
    · rw [List.mem_singleton.mp hr]; exact l1 b hb
  · intro r hr
    rcases List.mem_cons.mp hr with rfl | hr
    · exact isi_cls
    · rw [List.mem_singleton.mp hr]; exact dict_cls
theorem eltI {G : Addr} {gB : Heap} {ledU : List (Addr × Obj)} {u₀ : Shared} {m₂ : Str → Option Value} {a b q e k : Int} {i : Nat} {t : Tok} {h' : Heap} {tk' : Nat}
    (F' : Fr gB G h' m₂) (N' : News gB G h' ledU) (hn : e = Int.fmod k q) (hk : k = nth2 a b i) :
    EltPost G gB ledU u₀ m₂ (PhiI a b q) i (.int e t) { u₀ with heap := h', toks := tk' } :=
  ⟨[], F', N', ⟨_, _, rfl⟩, (fun _ _ _ h => nomatch h), (fun _ h => nomatch h), ⟨rfl, t, by rw [hn, hk]⟩⟩
theorem tupF {A : Around} {g : Heap} {L : Addr} {m : Str → Option Value} {P : Addr} {pos : Pos} {led : List (Addr × Obj)} {Cq : Addr} {u v q : Int} {s : Shared} {a gN C I N : Nat} {ps : Array Value} {s₅ : Shared} {Q E : Value → Shared → Prop}
    (R : GenReady prog w A g L m P pos led 2 (PhiF Cq u v q) s a gN C I N ps s₅) (hh : A.handled = none) (hroom : A.depth < recursionLimit)
    (hQ : ∀ T x0 d0 k1 k2 t1 t2 t3 t4 n0 x1 d1 k1' k2' t1' t2' t3' t4' n1 s', Fr g L s'.heap m → News g L s'.heap ((T, tupO #[.ref x0, .ref x1]) :: (x1, instObj Cq d1) :: (d1, dictOf [⟨k1', .str "field_modulus" t1', .int q t2'⟩, ⟨k2', .str "n" t3', .int n1 t4'⟩] 2) ::
        (x0, instObj Cq d0) :: (d0, dictOf [⟨k1, .str "field_modulus" t1, .int q t2⟩, ⟨k2, .str "n" t3, .int n0 t4⟩] 2) :: (P, tabO ps) :: led) → n0 = Int.fmod u q → n1 = Int.fmod v q → (AllBare s.gens → AllBare s'.gens) → s'.os = s.os →
      (∀ b ∈ (P, tabO ps) :: led, b.1 < d0) → (∀ b ∈ (P, tabO ps) :: led, b.1 < d1) → d0 < x0 → d1 < x1 → x0 < T → x1 < T → TbOk pos ps → Q (.ref T) s') :
    wpAny (model prog w) A (call (.type "tuple") [.ref a]) Q E s₅ := by
  refine tupReady hh hroom R fun T y0 y1 new0 new1 s' F' N' h0 h1 hg ho hord l0 l1 => ?_
  obtain ⟨x0, d0, k1, k2, t1, t2, t3, t4, n0, rfl, rfl, e0, dx0⟩ := h0
  obtain ⟨x1, d1, k1', k2', t1', t2', t3', t4', n1, rfl, rfl, e1, dx1⟩ := h1
  exact hQ T x0 d0 k1 k2 t1 t2 t3 t4 n0 x1 d1 k1' k2' t1' t2' t3' t4' n1 s' F' N' e0 e1 (fun h => hg (R.gens h)) (ho.trans R.os) (fun b hb => (hord b hb).2.1 _ (.tail _ (.head _))) (fun b hb => (hord b hb).2.2 _ (.tail _ (.head _))) dx0 dx1 (l0 _ (.head _)) (l1 _ (.head _)) R.tb
theorem tupI {A : Around} {g : Heap} {L : Addr} {m : Str → Option Value} {P : Addr} {pos : Pos} {led : List (Addr × Obj)} {u v q : Int} {s : Shared} {a gN C I N : Nat} {ps : Array Value} {s₅ : Shared} {Q E : Value → Shared → Prop}
    (R : GenReady prog w A g L m P pos led 2 (PhiI u v q) s a gN C I N ps s₅) (hh : A.handled = none) (hroom : A.depth < recursionLimit)
    (hQ : ∀ T t0 t1 s', Fr g L s'.heap m → News g L s'.heap ((T, tupO #[.int (Int.fmod u q) t0, .int (Int.fmod v q) t1]) :: (P, tabO ps) :: led) → (AllBare s.gens → AllBare s'.gens) → s'.os = s.os →
      (∀ b ∈ (P, tabO ps) :: led, b.1 < T) → TbOk pos ps → Q (.ref T) s') :
    wpAny (model prog w) A (call (.type "tuple") [.ref a]) Q E s₅ := by
  refine tupReady hh hroom R fun T y0 y1 new0 new1 s' F' N' h0 h1 hg ho hord l0 l1 => ?_
  obtain ⟨rfl, t0, rfl⟩ := h0
  obtain ⟨rfl, t1, rfl⟩ := h1
  exact hQ T t0 t1 s' F' N' (fun h => hg (R.gens h)) (ho.trans R.os) (fun b hb => (hord b hb).1) R.tb
end
theorem pull3 {h₀ h : Heap} {L : Addr} {a b c p : Addr × Obj} {l : List (Addr × Obj)} (N : News h₀ L h (a :: b :: c :: p :: l)) : News h₀ L h (p :: a :: b :: c :: l) :=
  news_sub N fun q hq => by simp only [List.mem_cons] at hq ⊢; rcases hq with h | h | h | h | h <;> simp [h]
def FqpIn (Cp Cq : Addr) (led : List (Addr × Obj)) (x : Value) (u v c na q : Int) : Prop :=
  ∃ a d T M k1 k2 k3 k4 t1 t2 t3 t4 t5 t6 t7 t8 y0 y1, x = .ref a ∧ (a, instObj Cp d) ∈ led ∧
    (d, dictOf [⟨k1, .str "field_modulus" t1, .int q t2⟩, ⟨k2, .str "coeffs" t3, .ref T⟩, ⟨k3, .str "modulus_coeffs" t4, .ref M⟩, ⟨k4, .str "degree" t5, .int 2 t6⟩] 4) ∈ led ∧
    (T, tupO #[y0, y1]) ∈ led ∧ FqIn Cq led y0 u q ∧ FqIn Cq led y1 v q ∧ (M, tupO #[.int c t7, .int na t8]) ∈ led
end Mine

end

section
namespace Mine
open PySem PySem.W PyProof.Rows PySem.Calls
abbrev PlR (P : Addr) (pos : Pos) (Cp Cq : Addr) (h₀ : Heap) (L : Addr) (m : Str → Option Value) (news : List (Addr × Obj)) (s : Shared) (Q : Value → Shared → Prop) (u v c na q : Int) : Prop :=
  ∀ x news' ps' s', Fr h₀ L s'.heap m → News h₀ L s'.heap ((P, tabO ps') :: news') → TbOk pos ps' → (∀ p ∈ news', p.1 ≠ P) → (∀ p ∈ news, p ∈ news') → (AllBare s.gens → AllBare s'.gens) → s'.os = s.os → FqpIn Cp Cq news' (.ref x) u v c na q → Q (.ref x) s'
theorem fqp_of {Cp Cq : Addr} {led : List (Addr × Obj)} {x d T M x0 d0 x1 d1 : Addr} {u v c na q n0 n1 : Int} {k1 k2 k3 k4 k5 k6 k7 k8 : Int} {t1 t2 t3 t4 t5 t6 t7 t8 s1 s2 s3 s4 s5 s6 s7 s8 : Tok}
    (hx : (x, instObj Cp d) ∈ led) (hd : (d, dictOf [⟨k1, .str "field_modulus" t1, .int q t2⟩, ⟨k2, .str "coeffs" t3, .ref T⟩, ⟨k3, .str "modulus_coeffs" t4, .ref M⟩, ⟨k4, .str "degree" t5, .int 2 t6⟩] 4) ∈ led) (hT : (T, tupO #[.ref x0, .ref x1]) ∈ led)
    (a0 : (x0, instObj Cq d0) ∈ led) (b0 : (d0, dictOf [⟨k5, .str "field_modulus" s1, .int q s2⟩, ⟨k6, .str "n" s3, .int n0 s4⟩] 2) ∈ led) (a1 : (x1, instObj Cq d1) ∈ led) (b1 : (d1, dictOf [⟨k7, .str "field_modulus" s5, .int q s6⟩, ⟨k8, .str "n" s7, .int n1 s8⟩] 2) ∈ led)
    (hM : (M, tupO #[.int c t7, .int na t8]) ∈ led) (e0 : n0 = u) (e1 : n1 = v) : FqpIn Cp Cq led (.ref x) u v c na q := by
  subst e0 e1
  exact ⟨x, d, T, M, k1, k2, k3, k4, t1, t2, t3, t4, t5, t6, t7, t8, _, _, rfl, hx, hd, hT, FqIn.of a0 b0, FqIn.of a1 b1, hM⟩
theorem FqpIn.mono {Cp Cq : Addr} {led led' : List (Addr × Obj)} {x : Value} {u v c na q : Int} (h : FqpIn Cp Cq led x u v c na q) (k : ∀ p ∈ led, p ∈ led') : FqpIn Cp Cq led' x u v c na q := by
  obtain ⟨a, d, T, M, k1, k2, k3, k4, t1, t2, t3, t4, t5, t6, t7, t8, y0, y1, e, h1, h2, h3, h4, h5, h6⟩ := h
  exact ⟨a, d, T, M, k1, k2, k3, k4, t1, t2, t3, t4, t5, t6, t7, t8, y0, y1, e, k _ h1, k _ h2, k _ h3, h4.mono k, h5.mono k, k _ h6⟩
theorem pl1 (P : Addr) {h₀ h : Heap} {L : Addr} {a0 : Addr × Obj} {ps : Array Value} {l : List (Addr × Obj)} (N : News h₀ L h (a0 :: (P, tabO ps) :: l)) : News h₀ L h ((P, tabO ps) :: a0 :: l) :=
  news_sub N fun q hq => by simp only [List.mem_cons] at hq ⊢; rcases hq with h | h | h <;> simp [h]
theorem pl5 (P : Addr) {h₀ h : Heap} {L : Addr} {a0 a1 a2 a3 a4 : Addr × Obj} {ps : Array Value} {l : List (Addr × Obj)} (N : News h₀ L h (a0 :: a1 :: a2 :: a3 :: a4 :: (P, tabO ps) :: l)) : News h₀ L h ((P, tabO ps) :: a0 :: a1 :: a2 :: a3 :: a4 :: l) :=
  news_sub N fun q hq => by simp only [List.mem_cons] at hq ⊢; rcases hq with h | h | h | h | h | h | h <;> simp [h]
def MEq (q a b : Int) : Prop := ∃ k, a = b + q * k
theorem MEq.rfl' {q a : Int} : MEq q a a := ⟨0, by simp⟩
theorem MEq.fm {q a b : Int} (h : MEq q a b) : MEq q (Int.fmod a q) b := by
  obtain ⟨k, e⟩ := h
  exact ⟨k - a.fdiv q, by rw [Int.fmod_def, Int.mul_sub, e]; omega⟩
theorem MEq.add {q a b c d : Int} (h : MEq q a b) (h' : MEq q c d) : MEq q (a + c) (b + d) := by
  obtain ⟨k, e⟩ := h; obtain ⟨k', e'⟩ := h'
  exact ⟨k + k', by rw [e, e', Int.mul_add]; omega⟩
theorem MEq.sub {q a b c d : Int} (h : MEq q a b) (h' : MEq q c d) : MEq q (a - c) (b - d) := by
  obtain ⟨k, e⟩ := h; obtain ⟨k', e'⟩ := h'
  exact ⟨k - k', by rw [e, e', Int.mul_sub]; omega⟩
theorem MEq.mul {q a b c d : Int} (h : MEq q a b) (h' : MEq q c d) : MEq q (a * c) (b * d) := by
  obtain ⟨k, e⟩ := h; obtain ⟨k', e'⟩ := h'
  exact ⟨b * k' + k * d + k * q * k', by rw [e, e']; grind⟩
theorem MEq.eq {q a b : Int} (h : MEq q a b) : Int.fmod a q = Int.fmod b q := by
  obtain ⟨k, e⟩ := h
  rw [e, Int.add_mul_fmod_self_left]
section
variable {prog : Program} {w : World} {A : Around} {E : Value → Shared → Prop} {s : Shared}
theorem tup_same {h₀ : Heap} {L t : Addr} {news : List (Addr × Obj)} {vs : Array Value} {Q : Value → Shared → Prop} (N : News h₀ L s.heap news) (hm : (t, tupO vs) ∈ news) (h : Q (.ref t) s) : wpAny (model prog w) A (call (.type "tuple") [.ref t]) Q E s :=
  call_tuple_same ⟨_, (N _ hm).1, rfl, _, rfl⟩ h
end
end Mine

end

section
namespace Mine
open PySem PySem.W PyProof.Rows PySem.Calls PyProof.Rows.LCg
def MadeC (Φ : Nat → Value → List (Addr × Obj) → Prop) (tst : Nat → Bool) : Nat → List Value → List (Addr × Obj) → Prop
  | 0, ys, nw => ys = [] ∧ nw = []
  | i + 1, ys, nw => (tst i = true ∧ ∃ ys' nw' y new, MadeC Φ tst i ys' nw' ∧ ys = ys' ++ [y] ∧ nw = new ++ nw' ∧ Φ i y new) ∨ (tst i = false ∧ MadeC Φ tst i ys nw)

def AllOf (h₀ : Heap) (L : Addr) (h : Heap) (zs : List (Addr × Obj)) : Prop := ∀ p : Addr × Obj, p ∈ zs ↔ p.1 ≠ L ∧ h₀.get? p.1 = none ∧ h.get? p.1 = some p.2
theorem allOf (h₀ : Heap) (L : Addr) (h : Heap) : ∃ zs, AllOf h₀ L h zs := by
  refine ⟨(List.range h.objs.size).filterMap fun b => if b ≠ L ∧ h₀.get? b = none then (h.get? b).map fun o => (b, o) else none, fun p => ?_⟩
  rw [List.mem_filterMap]
  constructor
  · rintro ⟨b, _, hb⟩
    split at hb
    · rename_i q
      cases e : h.get? b with
      | none => rw [e] at hb; cases hb
      | some o => rw [e] at hb; cases hb; exact ⟨q.1, q.2, e⟩
    · cases hb
  · rintro ⟨h1, h2, h3⟩
    exact ⟨p.1, List.mem_range.mpr (Heap.lt_size h3), by rw [if_pos ⟨h1, h2⟩, h3]; rfl⟩
theorem AllOf.news {h₀ h : Heap} {L : Addr} {zs : List (Addr × Obj)} (z : AllOf h₀ L h zs) : News h₀ L h zs := fun p hp => ⟨((z p).mp hp).2.2, ((z p).mp hp).1, ((z p).mp hp).2.1⟩
theorem AllOf.keep {h₀ h h' : Heap} {L : Addr} {m : Str → Option Value} {zs new : List (Addr × Obj)} (z : AllOf h₀ L h zs) (F : Fr h₀ L h m) (F' : Fr h₀ L h' m) (N' : News h₀ L h' (new ++ zs)) : ∀ b o, b ≠ L → h.get? b = some o → h'.get? b = some o := by
  intro b o hb e
  cases eb : h₀.get? b with
  | some o' =>
    have := F.keep b o' eb
    rw [e] at this
    cases this
    exact F'.keep b o eb
  | none => exact (N' (b, o) (List.mem_append_right _ ((z _).mpr ⟨hb, eb, e⟩))).1
section
variable {prog : Program} {w : World} {A : Around} {h₀ : Heap} {L : Addr} {m : Str → Option Value} {env : Env}
structure CmInv (h₀ : Heap) (L : Addr) (m : Str → Option Value) (s₂ : Shared) (C D : Addr) (led : List (Addr × Obj)) (St : Nat → Heap → Prop) (Φ : Nat → Value → List (Addr × Obj) → Prop) (tst : Nat → Bool) (i : Nat) (s' : Shared) (ys : List Value) (nw : List (Addr × Obj)) (m' : Str → Option Value) : Prop where
  st : ∃ h' tk, s' = { s₂ with heap := h', toks := tk }
  len : ys.length ≤ i
  src : St i s'.heap
  fr : Fr h₀ L s'.heap m
  ns : s'.heap.Ns C m'
  nws : News h₀ L s'.heap ((D, lst ys) :: (nw ++ led))
  hi : ∀ r ∈ nw, @LT.lt Nat _ C r.1
  made : MadeC Φ tst i ys nw


def CmElt (prog : Program) (w : World) (A : Around) (h₀ : Heap) (L : Addr) (m : Str → Option Value) (env : Env) (scope : Scope) (cl : List (Str × Addr)) (elt : Expr) (led : List (Addr × Obj)) (Bind : Nat → (Str → Option Value) → Prop) (Φ : Nat → Value → List (Addr × Obj) → Prop) (tst : Nat → Bool) (n : Nat) : Prop :=
  ∀ i (C : Addr) oC zs (u : Shared) m₂ (E' : Value → Shared → Prop), i < n → tst i = true → Bind i m₂ → NsObj oC m₂ → (C, oC) ∈ zs → Fr h₀ L u.heap m → News h₀ L u.heap zs → (∀ p ∈ led, p ∈ zs) →
    wpAny (model prog w) A (eval elt (compEnvC scope cl C env)) (EltPost L h₀ zs u m Φ i) E' u

theorem cm_elt {elt : Expr} {scope : Scope} {cl : List (Str × Addr)} {target : Expr} {I C D : Addr} {fp wr : List Addr} {n i : Nat} {P Md : Nat → Value → Heap → Prop} {St : Nat → Heap → Prop} {led : List (Addr × Obj)} {Bind : Nat → (Str → Option Value) → Prop} {Φ : Nat → Value → List (Addr × Obj) → Prop} {tst : Nat → Bool}
    {s₂ s₄ : Shared} {ys : List Value} {nw : List (Addr × Obj)} {m₄ : Str → Option Value} {E' : Value → Shared → Prop}
    (W : KTurns prog w A target I fp wr n P Md St) (hsz : n ≤ sizeLine) (hi : i < n) (hL : L ∉ fp) (hDf : D ∉ fp) (hDL : D ≠ L) (hD₀ : h₀.get? D = none) (hCL : C ≠ L) (hC₀ : h₀.get? C = none) (hDC : @LT.lt Nat _ D C) (hlo : ∀ p ∈ led, @LT.lt Nat _ p.1 D)
    (helt : CmElt prog w A h₀ L m env scope cl elt led Bind Φ tst n) (ht : tst i = true)
    (hst : ∃ h' tk, s₄ = { s₂ with heap := h', toks := tk }) (hlen : ys.length ≤ i) (src : St (i + 1) s₄.heap) (F : Fr h₀ L s₄.heap m) (hns : s₄.heap.Ns C m₄) (N : News h₀ L s₄.heap ((D, lst ys) :: (nw ++ led))) (hhi : ∀ r ∈ nw, @LT.lt Nat _ C r.1) (hm : MadeC Φ tst i ys nw) (hb : Bind i m₄) :
    wpAny (model prog w) A (eval elt (compEnvC scope cl C env)) (fun x s₅ => wpAny (model prog w) A (call (.builtin "list.append") [.ref D, x]) (fun _ s₆ => ∃ ys' nw' m', CmInv h₀ L m s₂ C D led St Φ tst (i + 1) s₆ ys' nw' m') E' s₅) E' s₄ := by
  obtain ⟨zs, hz⟩ := allOf h₀ L s₄.heap
  obtain ⟨oC, heC, hoC⟩ := ns_obj hns
  have hCz : (C, oC) ∈ zs := (hz _).mpr ⟨hCL, hC₀, heC⟩
  have inz : ∀ p ∈ (D, lst ys) :: (nw ++ led), p ∈ zs := fun p hp => (hz p).mpr ⟨(N p hp).2.1, (N p hp).2.2, (N p hp).1⟩
  refine wpAny_mono (helt i C oC zs s₄ m₄ _ hi ht hb hoC hCz F hz.news fun p hp => inz p (List.mem_cons_of_mem _ (List.mem_append_right _ hp))) (fun y s₅ h₅ => ?_) fun _ _ e => e
  obtain ⟨new, F₅, N₅, ⟨h₅, tk₅, rfl⟩, hord, hcl, hΦ⟩ := h₅
  have keep := hz.keep F F₅ N₅
  have nL : ∀ p ∈ (D, lst ys) :: (nw ++ led), p.1 ≠ L := fun p hp => (N p hp).2.1
  have zD : h₅.get? D = some (lst ys) := keep _ _ hDL (N _ List.mem_cons_self).1
  have src₅ : St (i + 1) h₅ := W.frame _ _ _ src fun b hb o e => keep b o (fun q => hL (q ▸ hb)) e
  refine append_at (hsz := by show ys.toArray.size ≤ sizeLine; rw [List.size_toArray]; exact Nat.le_trans hlen (Nat.le_trans (Nat.le_of_lt hi) hsz)) zD fun h₆ hs₆ hD₆ => ?_
  obtain ⟨h4, tk4, rfl⟩ := hst
  have hDz : (D, lst ys) ∈ zs := inz _ List.mem_cons_self
  refine ⟨ys ++ [y], new ++ nw, m₄, ⟨h₆, tk₅, rfl⟩, by rw [List.length_append, List.length_singleton]; exact Nat.succ_le_succ hlen, W.frame _ _ _ src₅ fun b hb o e => hs₆.extBut b o (fun q => hDf (q ▸ hb)) e, F₅.change hs₆ hDL hD₀,
    (hoC.ns (keep _ _ hCL heC)).sameBut hs₆ (Nat.ne_of_gt hDC), ?_, ?_, .inl ⟨ht, ys, nw, y, new, hm, rfl, rfl, hΦ⟩⟩
  · intro p hp
    rcases List.mem_cons.mp hp with rfl | hp
    · exact ⟨hD₆.trans (congrArg some (lst_snoc ys y)), hDL, hD₀⟩
    rw [List.append_assoc] at hp
    rcases List.mem_append.mp hp with hp | hp
    · have q := N₅ p (List.mem_append_left _ hp)
      exact ⟨hs₆.extBut _ _ (Nat.ne_of_gt (hord _ hDz p hp)) q.1, q.2⟩
    · have q := N p (List.mem_cons_of_mem _ hp)
      refine ⟨?_, q.2⟩
      by_cases e : p.1 = D
      · refine absurd e ?_
        rcases List.mem_append.mp hp with hp | hp
        · exact Nat.ne_of_gt (Nat.lt_trans hDC (hhi p hp))
        · exact Nat.ne_of_lt (hlo p hp)
      · exact hs₆.extBut _ _ e (keep _ _ q.2.1 q.1)
  · intro r hr
    rcases List.mem_append.mp hr with hr | hr
    · exact hord _ hCz r hr
    · exact hhi r hr

theorem cmBlock0 {elt iter : Expr} {target : Expr} {scope : Scope} {cl : List (Str × Addr)} {pos : Pos} {s₂ : Shared} {I : Addr} {fp wr : List Addr} {n : Nat} {P Md : Nat → Value → Heap → Prop} {St : Nat → Heap → Prop} {led : List (Addr × Obj)} {Bind : Nat → (Str → Option Value) → Prop} {Φ : Nat → Value → List (Addr × Obj) → Prop}
    {RR : Value → Addr → Result → Shared → Prop}
    (W : KTurns prog w A target I fp wr n P Md St) (hsz : n ≤ sizeLine)
    (hself : ∀ (s : Shared) (Q : Value → Shared → Prop) (E : Value → Shared → Prop), St 0 s.heap → Q (.ref I) s → wpAny (model prog w) A (pyIter (.ref I)) Q E s)
    (hasg : ∀ C i v (s : Shared) (mC : Str → Option Value) (Q : Unit → Shared → Prop) (E : Value → Shared → Prop), P i v s.heap → s.heap.Ns C mC → (∀ h' tk m', h'.Ns C m' → Bind i m' → (∀ b o, b ≠ C → s.heap.get? b = some o → h'.get? b = some o) → Q () { s with heap := h', toks := tk }) → wpAny (model prog w) A (assign target (compEnvC scope cl C env) v) Q E s)
    (hcell : ∀ y ∈ scope.names, y.2 ≠ .cell) (hkind : scope.kind = .function) (hst : St 0 s₂.heap) (hfp : ∀ b ∈ fp, b < s₂.heap.objs.size) (hL : L ∉ fp) (hwr : ∀ b ∈ wr, h₀.get? b = none) (hwl : ∀ p ∈ led, p.1 ∉ wr)
    (F : Fr h₀ L s₂.heap m) (N : News h₀ L s₂.heap led) (helt : CmElt prog w A h₀ L m env scope cl elt led Bind Φ (fun _ => true) n)
    (hRR : ∀ (D C : Nat) h tk m' ys nw, Fr h₀ L h m → News h₀ L h ((D, lst ys) :: (nw ++ led)) → (∀ b ∈ led, @LT.lt Nat _ b.1 D) → (∀ r ∈ nw, @LT.lt Nat _ C r.1) → @LT.lt Nat _ D C → @LT.lt Nat _ L D → h.Ns C m' → h₀.get? C = none → h₀.get? D = none → MadeC Φ (fun _ => true) n ys nw → RR (.ref D) C (.ok .next) { s₂ with heap := h, toks := tk }) :
    wpAny (model prog w) A (newList []) (fun acc s₃ => wpAny (model prog w) A (newFunctionEnv scope env.globals cl [] env.qual none .none (some env)) (fun cenv s₄ =>
      codeAny (model prog w) A (.compStart (.ListComp elt [⟨target, iter, [], 0⟩] scope pos) 0 (.ref I) acc { cenv with scope := relabel scope env }) (RR acc cenv.locals) s₄) E s₃) E s₂ := by
  refine wpAny_newObj_type (wpAny_newFunctionEnv hcell (by intro y hy; simp at hy) (fun h₁ hns₁ hsb₁ => ?_) hkind)
  dsimp only at hns₁ hsb₁ ⊢
  generalize hH2 : s₂.heap.push { cls := .type "list", dict := none, data := .seq ([] : List Value).toArray } = H2 at hns₁ hsb₁ ⊢
  have hC : H2.objs.size = s₂.heap.objs.size + 1 := by rw [← hH2, Heap.size_push]
  have hDC : s₂.heap.objs.size ≠ H2.objs.size := by rw [hC]; exact Nat.ne_of_lt (Nat.lt_succ_self _)
  have hDlt : s₂.heap.objs.size < H2.objs.size := by rw [hC]; exact Nat.lt_succ_self _
  have below : ∀ b, b < s₂.heap.objs.size → b ≠ H2.objs.size ∧ b ≠ s₂.heap.objs.size := fun b hb => ⟨by rw [hC]; exact Nat.ne_of_lt (Nat.lt_succ_of_lt hb), Nat.ne_of_lt hb⟩
  have hDf : s₂.heap.objs.size ∉ fp := fun hm => Nat.lt_irrefl _ (hfp _ hm)
  have hCf : H2.objs.size ∉ fp := fun hm => by have := hfp _ hm; rw [hC] at this; exact Nat.lt_irrefl _ (Nat.lt_of_succ_lt this)
  have old : ∀ b o, s₂.heap.get? b = some o → h₁.get? b = some o := fun b o e => hsb₁.extBut b o (below b (Heap.lt_size e)).1 (Heap.get?_push_of_some _ (hH2 ▸ Heap.get?_push_of_some _ e))
  have hacc : h₁.get? s₂.heap.objs.size = some (lst []) := hsb₁.extBut _ _ hDC (Heap.get?_push_of_some _ (hH2 ▸ Heap.get?_push_size _ rfl))
  have hst₁ : St 0 h₁ := W.frame _ _ _ hst fun b _ o e => old b o e
  have fresh₀ : ∀ a, s₂.heap.objs.size ≤ a → h₀.get? a = none := fun a ha => by
    cases e : h₀.get? a with
    | none => rfl
    | some o' => exact absurd (Heap.lt_size (F.keep a o' e)) (Nat.not_lt.mpr ha)
  have hD₀ : h₀.get? s₂.heap.objs.size = none := fresh₀ _ (Nat.le_refl _)
  have hC₀ : h₀.get? H2.objs.size = none := fresh₀ _ (Nat.le_of_lt hDlt)
  have hLlt : L < s₂.heap.objs.size := F.ns.lt
  have hDL : s₂.heap.objs.size ≠ L := Ne.symm (below L hLlt).2
  have hCL : H2.objs.size ≠ L := Ne.symm (below L hLlt).1
  have hlo : ∀ p ∈ led, @LT.lt Nat _ p.1 s₂.heap.objs.size := fun p hp => Heap.lt_size (N p hp).1
  have hLwr : L ∉ wr := fun h => hL (W.sub L h)
  have hCwr : H2.objs.size ∉ wr := fun h => hCf (W.sub _ h)
  have hDwr : s₂.heap.objs.size ∉ wr := fun h => hDf (W.sub _ h)
  have hnw : ∀ b, H2.objs.size < b → b ∉ wr := fun b hb h => Nat.lt_irrefl _ (Nat.lt_trans (Nat.lt_trans hDlt hb) (hfp b (W.sub b h)))
  have loop : ∀ s₃ : Shared, s₃ = { s₂ with heap := h₁, toks := s₂.toks + ([] : List (Str × Value)).length } →
      codeAny (model prog w) A (.compLoop (.ListComp elt [⟨target, iter, [], 0⟩] scope pos) 0 (.ref I) (.ref s₂.heap.objs.size) (compEnvC scope cl H2.objs.size env))
        (RR (.ref s₂.heap.objs.size) H2.objs.size) s₃ := by
    rintro s₃ rfl
    refine kcp_loop (fun k s' => ∃ i ys nw m', i ≤ n ∧ k = n + 1 - i ∧ CmInv h₀ L m s₂ H2.objs.size s₂.heap.objs.size led St Φ (fun _ => true) i s' ys nw m') ?_ (n + 1)
      ⟨0, [], [], _, Nat.zero_le _, rfl, ⟨⟨h₁, _, rfl⟩, Nat.le_refl _, hst₁, F.keeps old, hns₁, (fun p hp => ?_), (fun r hr => nomatch hr), ⟨rfl, rfl⟩⟩⟩
    · rintro k s' ⟨i, ys, nw, m', hi, rfl, X⟩
      obtain ⟨h', tk, rfl⟩ := X.st
      have offp : ∀ p ∈ (s₂.heap.objs.size, lst ys) :: (nw ++ led), p.1 ∉ wr ∧ p.1 ≠ H2.objs.size := fun p hp => by
        rcases List.mem_cons.mp hp with rfl | hp
        · exact ⟨hDwr, hDC⟩
        rcases List.mem_append.mp hp with hp | hp
        · exact ⟨hnw _ (X.hi p hp), Nat.ne_of_gt (X.hi p hp)⟩
        · exact ⟨hwl p hp, Nat.ne_of_lt (Nat.lt_trans (hlo p hp) hDlt)⟩
      by_cases hlt : i < n
      · refine W.item i _ _ _ hlt X.src fun v h₂ tk₂ hMd hk₂ => ?_
        refine W.go i v _ _ _ hMd fun h₃ hP hst₃ hk₃ => ?_
        have up₃ : ∀ b o, b ∉ wr → h'.get? b = some o → h₃.get? b = some o := fun b o hb e => hk₃ b o hb (hk₂ b o hb e)
        refine hasg _ i v _ _ _ _ hP (X.ns.at' fun o e => up₃ _ o hCwr e) fun h₄ tk₄ m₄ hn₄ hB hs₄ => ?_
        have up : ∀ b o, b ∉ wr → b ≠ H2.objs.size → h'.get? b = some o → h₄.get? b = some o := fun b o h1 h2 e => hs₄ b o h2 (up₃ b o h1 e)
        refine wpAny_mono (cm_elt (s₂ := s₂) W hsz hlt hL hDf hDL hD₀ hCL hC₀ hDlt hlo helt rfl ⟨h₄, tk₄, rfl⟩ X.len (W.frame _ _ _ hst₃ fun b hb o e => hs₄ b o (fun q => hCf (q ▸ hb)) e)
          ⟨X.fr.ns.at' fun o e => up _ o hLwr (Ne.symm hCL) e, fun b o e => up b o (fun q => by rw [hwr b q] at e; cases e) (fun q => by rw [q, hC₀] at e; cases e) (X.fr.keep b o e), X.fr.above⟩ hn₄
          (fun p hp => ⟨up _ _ (offp p hp).1 (offp p hp).2 (X.nws p hp).1, (X.nws p hp).2⟩) X.hi X.made hB) (fun x s₅ h₅ => ?_) fun _ _ e => e
        refine wpAny_mono h₅ (fun _ s₆ h₆ => ?_) fun _ _ e => e
        obtain ⟨ys', nw', m₆, X'⟩ := h₆
        exact ⟨n + 1 - (i + 1), by omega, i + 1, ys', nw', m₆, hlt, rfl, X'⟩
      · obtain rfl : i = n := Nat.le_antisymm hi (Nat.not_lt.mp hlt)
        refine W.done _ _ _ X.src fun h₂ tk₂ hk₂ => ?_
        exact hRR _ _ h₂ tk₂ m' ys nw ⟨X.fr.ns.at' fun o e => hk₂ _ o hLwr e, fun b o e => hk₂ b o (fun q => by rw [hwr b q] at e; cases e) (X.fr.keep b o e), X.fr.above⟩ (fun p hp => ⟨hk₂ _ _ (offp p hp).1 (X.nws p hp).1, (X.nws p hp).2⟩) hlo X.hi hDlt hLlt (X.ns.at' fun o e => hk₂ _ o hCwr e) hC₀ hD₀ X.made
    · rcases List.mem_cons.mp hp with rfl | hp
      · exact ⟨hacc, hDL, hD₀⟩
      · exact ⟨old _ _ (N p hp).1, (N p hp).2⟩
  exact codeAny_compStart_list (loop _ rfl) (hself _ _ _ hst₁ (loop _ rfl))
end
end Mine

end

section
namespace Mine
open PySem PySem.W PyProof.Rows PySem.Calls PyProof.Rows.LCg
def SrcOk (prog : Program) (w : World) (A : Around) (h₀ : Heap) (L : Addr) (env : Env) (scope : Scope) (cl : List (Str × Addr)) (target : Expr) (led : List (Addr × Obj)) (n : Nat) (Bind : Nat → (Str → Option Value) → Prop) (xv : Value) (s₁ : Shared) : Prop :=
  ∀ (E Q : Value → Shared → Prop), (∀ h₂ I fp wr P Md St, (∀ b o, s₁.heap.get? b = some o → h₂.get? b = some o) → KTurns prog w A target I fp wr n P Md St →
      (∀ (s : Shared) (Q : Value → Shared → Prop) (E : Value → Shared → Prop), St 0 s.heap → Q (.ref I) s → wpAny (model prog w) A (pyIter (.ref I)) Q E s) →
      (∀ C i v (s : Shared) (mC : Str → Option Value) (Q : Unit → Shared → Prop) (E : Value → Shared → Prop), P i v s.heap → s.heap.Ns C mC → (∀ h' tk m', h'.Ns C m' → Bind i m' → (∀ b o, b ≠ C → s.heap.get? b = some o → h'.get? b = some o) → Q () { s with heap := h', toks := tk }) → wpAny (model prog w) A (assign target (compEnvC scope cl C env) v) Q E s) →
      St 0 h₂ → (∀ b ∈ fp, b < h₂.objs.size) → L ∉ fp → (∀ b ∈ wr, h₀.get? b = none) → (∀ p ∈ led, p.1 ∉ wr) → Q (.ref I) { s₁ with heap := h₂ }) →
    wpAny (model prog w) A (pyIter xv) Q E s₁
def CmSrc (prog : Program) (w : World) (A : Around) (h₀ : Heap) (L : Addr) (m : Str → Option Value) (env : Env) (scope : Scope) (cl : List (Str × Addr)) (target elt : Expr) (Fin : Shared → Nat → List (Addr × Obj) → (Nat → Value → List (Addr × Obj) → Prop) → Prop) (xv : Value) (s₁ : Shared) : Prop :=
  ∃ led n Bind Φ, n ≤ sizeLine ∧ Fr h₀ L s₁.heap m ∧ News h₀ L s₁.heap led ∧ SrcOk prog w A h₀ L env scope cl target led n Bind xv s₁ ∧ CmElt prog w A h₀ L m env scope cl elt led Bind Φ (fun _ => true) n ∧ Fin s₁ n led Φ
def CmFinE (h₀ : Heap) (L : Addr) (m : Str → Option Value) (Q : Value → Shared → Prop) (s₁ : Shared) (n : Nat) (led : List (Addr × Obj)) (Φ : Nat → Value → List (Addr × Obj) → Prop) : Prop :=
  ∀ (D : Addr) h tk ys nw, Fr h₀ L h m → News h₀ L h ((D, lst ys) :: (nw ++ led)) → (∀ b ∈ led, @LT.lt Nat _ b.1 D) → (∀ r ∈ nw, @LT.lt Nat _ D r.1) → MadeC Φ (fun _ => true) n ys nw → Q (.ref D) { s₁ with heap := h, toks := tk }
def CmFinA (h₀ : Heap) (L : Addr) (m : Str → Option Value) (y : Str) (Q : Flow → Shared → Prop) (s₁ : Shared) (n : Nat) (led : List (Addr × Obj)) (Φ : Nat → Value → List (Addr × Obj) → Prop) : Prop :=
  ∀ (D : Addr) h tk ys nw, Fr h₀ L h (fun z => if z = y then some (.ref D) else m z) → News h₀ L h ((D, lst ys) :: (nw ++ led)) → (∀ b ∈ led, @LT.lt Nat _ b.1 D) → (∀ r ∈ nw, @LT.lt Nat _ D r.1) → MadeC Φ (fun _ => true) n ys nw → Q .next { s₁ with heap := h, toks := tk }
section
variable {prog : Program} {w : World} {A : Around} {E : Value → Shared → Prop} {s : Shared} {h₀ : Heap} {L : Addr} {m : Str → Option Value} {env : Env}
end
def PhiG (C : Addr) (f : Nat → Int) (q : Int) (i : Nat) (y : Value) (new : List (Addr × Obj)) : Prop :=
  ∃ x d k1 k2 t1 t2 t3 t4 n, y = .ref x ∧ new = [(x, instObj C d), (d, dictOf [⟨k1, .str "field_modulus" t1, .int q t2⟩, ⟨k2, .str "n" t3, .int n t4⟩] 2)] ∧ n = f i ∧ d < x ∧ 0 ≤ n ∧ n < q
def PhiN (f : Nat → Int) (i : Nat) (y : Value) (new : List (Addr × Obj)) : Prop := new = [] ∧ ∃ t, y = .int (f i) t
abbrev fqd (q n : Int) (k1 k2 : Int) (t1 t2 t3 t4 : Tok) : Obj := dictOf [⟨k1, .str "field_modulus" t1, .int q t2⟩, ⟨k2, .str "n" t3, .int n t4⟩] 2
theorem made1 {Φ : Nat → Value → List (Addr × Obj) → Prop} {i : Nat} {ys : List Value} {nw : List (Addr × Obj)} (h : MadeC Φ (fun _ => true) (i + 1) ys nw) : ∃ ys' nw' y new, MadeC Φ (fun _ => true) i ys' nw' ∧ ys = ys' ++ [y] ∧ nw = new ++ nw' ∧ Φ i y new := by
  rcases h with h | h
  · exact h.2
  · have := h.1; simp at this
end Mine

end

section
namespace Mine
open PySem PySem.W PyProof.Rows PySem.Calls
section
variable {prog : Program} {w : World} {M : Model} {A : Around} {E : Value → Shared → Prop} {s : Shared} {K : Frag} {x y C L f g : Addr} {h₀ : Heap} {m : Str → Option Value} {ox oy : Obj} {od od' : Option Obj} {nm : String} {cd : ClassData}
theorem noInpl {h : Heap} {add : Bool} (X : K.In h) (hc : clsIn K C = some cd) (hm : cd.mro = [.ref C, .type "object"]) (h1 : findIn K (.ref C) (dunderI nm) = some none) (h2 : findIn K (.type "object") (dunderI nm) = some none) :
    Looks M h (fillsInplaceSlot (.ref C) nm add) false := by
  intro A Q E s k q
  have Lm : Looks M h (mroOf (.ref C)) cd.mro := (looks_clsIn X hc).andThen (f := fun cd => pure cd.mro) .now
  have Lm' := Lm.keeps k
  obtain ⟨hh, g, d, tt, os⟩ := s
  have X' : K.In hh := X.keeps k
  have L1 : Looks M hh (typeLookup (.ref C) (dunderI nm)) none := looks_findIn X' h1
  have L2 : Looks M hh (typeLookup (.type "object") (dunderI nm)) none := looks_findIn X' h2
  unfold fillsInplaceSlot
  refine wpAny_bind (Lm'.at ?_)
  rw [hm, List.anyM_cons]
  refine wpAny_bind ?_
  refine wpAny_bind (L1.at ?_)
  refine wpAny_pure ?_
  rw [List.anyM_cons]
  refine wpAny_bind ?_
  refine wpAny_bind (L2.at ?_)
  refine wpAny_pure ?_
  exact wpAny_pure q
theorem bin1_same {Q : Value → Shared → Prop} (X : K.In s.heap) (I : InstAt s.heap x ox C od) (I' : InstAt s.heap y oy C od') (hc : selfFirst K C = true) (hs : findIn K (.ref C) (PySem.dunder nm) = some (some (.ref f))) (hf : isFn K (.ref f) = true)
    (h : wpAny (model prog w) A (call (.ref f) [.ref x, .ref y]) (PySem.W.CmpBack Q) E s) : wpAny (model prog w) A (binaryOp1 nm (.ref x) (.ref y)) (fun r s' => ∃ v, r = some v ∧ Q v s') E s := by
  obtain ⟨cd, rest, hcd, hm⟩ := ksp_first hc
  have one := ksp_try X I hs hf h
  obtain ⟨hh, gg, d, tt, os⟩ := s
  have L1 : Looks (model prog w) hh (typeOf (.ref x)) (.ref C) := I.type
  have L2 : Looks (model prog w) hh (typeOf (.ref y)) (.ref C) := I'.type
  have L3 : Looks (model prog w) hh (fillsNumberSlot (.ref C) nm) true := fills_K X hcd hm hs
  unfold binaryOp1
  refine wpAny_bind (L1.at (wpAny_bind (L2.at (wpAny_bind (L3.at ?_)))))
  simp only [beq_self_eq_true, if_true]
  ksp_lk
  refine wpAny_mono one (fun r s' hr' => ?_) fun _ _ e => e
  obtain ⟨v, rfl, hq⟩ := hr'
  ksp_lk
  exact ⟨v, rfl, hq⟩
theorem bin1_int {k : Int} {t : Tok} {fo ro rc : Option Value} {Q : Value → Shared → Prop} (X : K.In s.heap) (I : InstAt s.heap x ox C od) (hc : selfFirst K C = true)
    (hs : findIn K (.ref C) (PySem.dunder nm) = some (some (.ref f))) (hf : isFn K (.ref f) = true) (hr : findIn K (.ref C) (dunderR nm) = some rc) (hp : rc = none ∨ ∃ g : Addr, rc = some (.ref g))
    (h1 : findIn K (.type "int") (PySem.dunder nm) = some fo) (h2 : findIn K (.type "int") (dunderR nm) = some ro) (hsub : subIn K (.type "int") (.ref C) = some false)
    (h : wpAny (model prog w) A (call (.ref f) [.ref x, .int k t]) (PySem.W.CmpBack Q) E s) : wpAny (model prog w) A (binaryOp1 nm (.ref x) (.int k t)) (fun r s' => ∃ v, r = some v ∧ Q v s') E s := by
  obtain ⟨cd, rest, hcd, hm⟩ := ksp_first hc
  have one := ksp_try X I hs hf h
  obtain ⟨hh, g, d, tt, os⟩ := s
  have L1 : Looks (model prog w) hh (typeOf (.ref x)) (.ref C) := I.type
  have L2 : Looks (model prog w) hh (typeOf (.int k t)) (.type "int") := Looks.of_pure rfl
  have L3 : Looks (model prog w) hh (fillsNumberSlot (.ref C) nm) true := fills_K X hcd hm hs
  have L4 : Looks (model prog w) hh (fillsNumberSlot (.type "int") nm) ((fo.isSome && !isSeqSlot fo) || (ro.isSome && !isSeqSlot ro)) := ksp_fillsT X h1 h2
  have L5 : Looks (model prog w) hh (isSubtype (.type "int") (.ref C)) false := looks_subIn X hsub
  have L6 : Looks (model prog w) hh (numberSlotInPython (.ref C) nm) true := ksp_inPy X hs hr hp
  have L7 : Looks (model prog w) hh (numberSlotInPython (.type "int") nm) false := Looks.of_pure rfl
  have L8 : Looks (model prog w) hh (typeLookup (.type "int") (dunderR nm)) ro := looks_findIn X h2
  generalize ((fo.isSome && !isSeqSlot fo) || (ro.isSome && !isSeqSlot ro)) = right at L4
  have hne : (Value.ref C == Value.type "int") = false := Bool.eq_false_iff.mpr fun q => by cases beq_iff_eq.mp q
  unfold binaryOp1
  refine wpAny_bind (L1.at (wpAny_bind (L2.at (wpAny_bind (L3.at ?_)))))
  simp only [hne, Bool.false_eq_true, if_false]
  cases right with
  | false =>
    ksp_lk
    refine wpAny_mono one (fun r s' hr' => ?_) fun _ _ e => e
    obtain ⟨v, rfl, hq⟩ := hr'
    ksp_lk
    exact ⟨v, rfl, hq⟩
  | true =>
    ksp_lk
    refine wpAny_mono one (fun r s' hr' => ?_) fun _ _ e => e
    obtain ⟨v, rfl, hq⟩ := hr'
    ksp_lk
    exact ⟨v, rfl, hq⟩
theorem bin1_IR {k : Int} {t : Tok} {id : String} {Q : Value → Shared → Prop} (X : K.In s.heap) (I : InstAt s.heap x ox C od) (hc : selfFirst K C = true)
    (hs : findIn K (.ref C) (PySem.dunder nm) = some (some (.ref g))) (hr : findIn K (.ref C) (dunderR nm) = some (some (.ref f))) (hf : isFn K (.ref f) = true)
    (hsub : subIn K (.ref C) (.type "int") = some false) (hfl : fillsNumberSlot (.type "int") nm = pure true) (sl : Slot "int" (PySem.dunder nm) id)
    (hd : wpAny (model prog w) A (call (.builtin id) [.int k t, .ref x]) (fun v s' => v = .notImplemented ∧ s' = s) E s)
    (h : wpAny (model prog w) A (call (.ref f) [.ref x, .int k t]) (PySem.W.CmpBack Q) E s) : wpAny (model prog w) A (binaryOp1 nm (.int k t) (.ref x)) (fun r s' => ∃ v, r = some v ∧ Q v s') E s := by
  obtain ⟨cd, rest, hcd, hm⟩ := ksp_first hc
  have one := ksp_try X I hr hf h
  obtain ⟨hh, gg, d, tt, os⟩ := s
  have L1 : Looks (model prog w) hh (typeOf (.ref x)) (.ref C) := I.type
  have L2 : Looks (model prog w) hh (typeOf (.int k t)) (.type "int") := Looks.of_pure rfl
  have L3 : Looks (model prog w) hh (fillsNumberSlot (.ref C) nm) true := fills_K X hcd hm hs
  have L4 : Looks (model prog w) hh (fillsNumberSlot (.type "int") nm) true := Looks.of_pure hfl
  have L5 : Looks (model prog w) hh (isSubtype (.ref C) (.type "int")) false := looks_subIn X hsub
  have L7 : Looks (model prog w) hh (numberSlotInPython (.type "int") nm) false := Looks.of_pure rfl
  have hne : (Value.type "int" == Value.ref C) = false := Bool.eq_false_iff.mpr fun q => by cases beq_iff_eq.mp q
  unfold binaryOp1
  refine wpAny_bind (L2.at (wpAny_bind (L1.at (wpAny_bind (L4.at ?_)))))
  simp only [hne, Bool.false_eq_true, if_false]
  ksp_lk
  refine decl_try sl hd ?_
  ksp_lk
  refine wpAny_mono one (fun r s' hr' => ?_) fun _ _ e => e
  obtain ⟨v, rfl, hq⟩ := hr'
  ksp_lk
  exact ⟨v, rfl, hq⟩
theorem inpl_of {op : Operator} {a b ta : Value} {Q : Value → Shared → Prop} (LT : Looks (model prog w) s.heap (typeOf a) ta) (LI : Looks (model prog w) s.heap (fillsInplaceSlot ta op.info.2 (op == .Add)) false)
    (h : wpAny (model prog w) A (binaryOp1 op.info.2 a b) (fun r s' => ∃ v, r = some v ∧ Q v s') E s) : wpAny (model prog w) A (inplaceOp op a b) Q E s := by
  obtain ⟨hh, gg, d, tt, os⟩ := s
  have LT' : Looks (model prog w) hh (typeOf a) ta := LT
  have LI' : Looks (model prog w) hh (fillsInplaceSlot ta op.info.2 (op == .Add)) false := LI
  unfold inplaceOp
  refine wpAny_holding ?_
  refine wpAny_bind (LT'.at (wpAny_bind (LI'.at ?_)))
  simp only [Bool.false_eq_true, if_false]
  refine wpAny_bind (wpAny_mono h (fun r s' hr' => ?_) fun _ _ e => e)
  obtain ⟨v, rfl, hq⟩ := hr'
  exact wpAny_pure hq
theorem bin_of {op : Operator} {a b : Value} {Q : Value → Shared → Prop} (h : wpAny (model prog w) A (binaryOp1 op.info.2 a b) (fun r s' => ∃ v, r = some v ∧ Q v s') E s) : wpAny (model prog w) A (binaryOp op a b) Q E s := by
  rcases hi : op.info with ⟨sym, nm'⟩
  rw [hi] at h
  simp only [binaryOp, hi]
  refine wpAny_holding (wpAny_bind (wpAny_mono h (fun r s' hr' => ?_) fun _ _ e => e))
  obtain ⟨v, rfl, hq⟩ := hr'
  exact wpAny_pure hq
theorem inpl_RR {op : Operator} {Q : Value → Shared → Prop} (F : Fr h₀ L s.heap m) (X₀ : K.In h₀) (I : InstAt s.heap x ox C od) (I' : InstAt s.heap y oy C od') (hc : selfFirst K C = true) (hs : findIn K (.ref C) (PySem.dunder op.info.2) = some (some (.ref f))) (hf : isFn K (.ref f) = true)
    (hcl : clsIn K C = some cd) (hm : cd.mro = [.ref C, .type "object"]) (h1 : findIn K (.ref C) (dunderI op.info.2) = some none) (h2 : findIn K (.type "object") (dunderI op.info.2) = some none)
    (h : wpAny (model prog w) A (call (.ref f) [.ref x, .ref y]) (PySem.W.CmpBack Q) E s) : wpAny (model prog w) A (inplaceOp op (.ref x) (.ref y)) Q E s :=
  inpl_of I.type (noInpl (X₀.keeps F.keep) hcl hm h1 h2) (bin1_same (X₀.keeps F.keep) I I' hc hs hf h)
theorem inpl_RI {op : Operator} {k : Int} {t : Tok} {fo ro rc : Option Value} {Q : Value → Shared → Prop} (F : Fr h₀ L s.heap m) (X₀ : K.In h₀) (I : InstAt s.heap x ox C od) (hc : selfFirst K C = true)
    (hs : findIn K (.ref C) (PySem.dunder op.info.2) = some (some (.ref f))) (hf : isFn K (.ref f) = true) (hr : findIn K (.ref C) (dunderR op.info.2) = some rc) (hp : rc = none ∨ ∃ g : Addr, rc = some (.ref g))
    (h1 : findIn K (.type "int") (PySem.dunder op.info.2) = some fo) (h2 : findIn K (.type "int") (dunderR op.info.2) = some ro) (hsub : subIn K (.type "int") (.ref C) = some false)
    (hcl : clsIn K C = some cd) (hm : cd.mro = [.ref C, .type "object"]) (h3 : findIn K (.ref C) (dunderI op.info.2) = some none) (h4 : findIn K (.type "object") (dunderI op.info.2) = some none)
    (h : wpAny (model prog w) A (call (.ref f) [.ref x, .int k t]) (PySem.W.CmpBack Q) E s) : wpAny (model prog w) A (inplaceOp op (.ref x) (.int k t)) Q E s :=
  inpl_of I.type (noInpl (X₀.keeps F.keep) hcl hm h3 h4) (bin1_int (X₀.keeps F.keep) I hc hs hf hr hp h1 h2 hsub h)
theorem inpl_IR {op : Operator} {k : Int} {t : Tok} {id : String} {Q : Value → Shared → Prop} (F : Fr h₀ L s.heap m) (X₀ : K.In h₀) (I : InstAt s.heap x ox C od) (hc : selfFirst K C = true)
    (hs : findIn K (.ref C) (PySem.dunder op.info.2) = some (some (.ref g))) (hr : findIn K (.ref C) (dunderR op.info.2) = some (some (.ref f))) (hf : isFn K (.ref f) = true)
    (hsub : subIn K (.ref C) (.type "int") = some false) (hfl : fillsNumberSlot (.type "int") op.info.2 = pure true) (sl : Slot "int" (PySem.dunder op.info.2) id) (hii : fillsInplaceSlot (.type "int") op.info.2 (op == .Add) = pure false)
    (hd : wpAny (model prog w) A (call (.builtin id) [.int k t, .ref x]) (fun v s' => v = .notImplemented ∧ s' = s) E s)
    (h : wpAny (model prog w) A (call (.ref f) [.ref x, .int k t]) (PySem.W.CmpBack Q) E s) : wpAny (model prog w) A (inplaceOp op (.int k t) (.ref x)) Q E s :=
  inpl_of (Looks.of_pure rfl) (Looks.of_pure hii) (bin1_IR (X₀.keeps F.keep) I hc hs hr hf hsub hfl sl hd h)
end
end Mine

end

section
set_option maxRecDepth 100000
set_option autoImplicit false
set_option linter.unusedVariables false
namespace Mine
open PySem PySem.W PyProof.Rows PySem.Calls
open Sem (wp)
section
variable {prog : Program} {w : World} {A : Around} {E : Value → Shared → Prop} {s : Shared}
theorem drawT_item {it t : Addr} {i : Nat} {items : Array Value} {x : Value} {Q : Value → Shared → Prop} (hit : s.heap.IsTupleIter it t i) (ht : s.heap.IsTuple t items) (hx : items[i]? = some x)
    (hQ : ∀ h', h'.IsTupleIter it t (i + 1) → Heap.SameBut it s.heap h' → Q x { s with heap := h' }) : wpAny (model prog w) A (Builtin.SmallTypes.nextOf (.ref it)) Q E s := by
  obtain ⟨o, ho, hc, hd⟩ := id hit
  obtain ⟨ol, hol, _, nl, hdl⟩ := ht
  unfold Builtin.SmallTypes.nextOf
  refine wpAny_bind (wpAny_callSpecial?_slot (name := Str.ofString "__next__") hit.typeIs F.slot_tuple_iterator_next (wpAny_call_entry F.slot_tuple_iterator_next hit.typeIs F.entry_tuple_iterator_next ?_ (F.args_tuple_iterator_next_1 _)))
  show wpAny _ _ (field (.ref it) 0 >>= _) _ _ s
  refine wpAny_bind (wpAny_field ho hd (x := .ref t) rfl ?_)
  show wpAny _ _ (if (Value.ref t == Value.none) = true then _ else _) _ _ s
  rw [if_neg (show ¬ ((Value.ref t == Value.none) = true) from Bool.false_ne_true)]
  show wpAny _ _ (field (.ref it) 1 >>= _) _ _ s
  refine wpAny_bind (wpAny_field ho hd (x := .int i 0) rfl ?_)
  show wpAny _ _ (seqItems? (.ref t) >>= _) _ _ s
  refine wpAny_bind (wpAny_seqItems hol hdl ?_)
  simp only [Int.toNat_natCast, hx]
  refine wpAny_bind (wpAny_setField ho hd (by simp) (wpAny_pure ⟨x, rfl, wpAny_pure (hQ _ ?_ (Heap.SameBut.update ..))⟩))
  exact ⟨_, Heap.get?_update_self _ ho (Obj.isFreed_of_fields (Obj.data_mapFields hd _)), (Obj.cls_mapFields ..).trans hc, by rw [Obj.data_mapFields hd]; simp [rawInt]⟩
theorem drawT_end {it t : Addr} {i : Nat} {items : Array Value} {Q : Value → Shared → Prop} (hh : A.handled = none) (hit : s.heap.IsTupleIter it t i) (ht : s.heap.IsTuple t items) (hx : items[i]? = none)
    (hE : ∀ h' e, Heap.ExtBut it s.heap h' → (∃ o, h'.get? e = some o ∧ o.cls = .type "StopIteration") → E (.ref e) { s with heap := h' }) : wpAny (model prog w) A (Builtin.SmallTypes.nextOf (.ref it)) Q E s := by
  obtain ⟨o, ho, hc, hd⟩ := id hit
  obtain ⟨ol, hol, _, nl, hdl⟩ := ht
  unfold Builtin.SmallTypes.nextOf
  refine wpAny_bind (wpAny_callSpecial?_slot (name := Str.ofString "__next__") hit.typeIs F.slot_tuple_iterator_next (wpAny_call_entry F.slot_tuple_iterator_next hit.typeIs F.entry_tuple_iterator_next ?_ (F.args_tuple_iterator_next_1 _)))
  show wpAny _ _ (field (.ref it) 0 >>= _) _ _ s
  refine wpAny_bind (wpAny_field ho hd (x := .ref t) rfl ?_)
  show wpAny _ _ (if (Value.ref t == Value.none) = true then _ else _) _ _ s
  rw [if_neg (show ¬ ((Value.ref t == Value.none) = true) from Bool.false_ne_true)]
  show wpAny _ _ (field (.ref it) 1 >>= _) _ _ s
  refine wpAny_bind (wpAny_field ho hd (x := .int i 0) rfl ?_)
  show wpAny _ _ (seqItems? (.ref t) >>= _) _ _ s
  refine wpAny_bind (wpAny_seqItems hol hdl ?_)
  simp only [Int.toNat_natCast, hx]
  refine wpAny_bind (wpAny_rule (wpAny_bind (wpAny_setField ho hd (by simp) ?_)))
  show wpAny _ _ (newExc (.type "StopIteration") [] >>= _) _ _ _
  refine wpAny_bind ?_
  simp only [newExc, newTuple]
  refine wpAny_bind (wpAny_newObj_type ?_ (by size_fits))
  refine wpAny_bind (m := firstArgMember _ _) (wpAny_of_eq (a := Value.none) (by first | rfl | (simp only [firstArgMember]; rfl)) ?_)
  refine wpAny_newObj_type ?_ (by size_fits)
  simp only [raiseNew]
  refine wpAny_bind (wpAny_handled ?_)
  first | rw [show A.in1.handled = none from hh] | rw [hh]
  refine wpAny_bind (wpAny_pure (wpAny_throw ?_))
  exact hE _ _ (((Heap.SameBut.update ..).extBut.push _).push _) ⟨_, Heap.get?_push_size _ rfl, rfl⟩
end
theorem drawsT {prog : Program} {w : World} {A : Around} (hh : A.handled = none) (it t : Addr) (hne : t ≠ it) (items : Array Value) :
    Draws prog w A it [it, t] items.size (fun i v => items[i]? = some v) (fun i h => h.IsTupleIter it t i ∧ h.IsTuple t items) where
  live := fun _ _ st => let ⟨o, ho, _⟩ := st.1; ⟨o, ho⟩
  frame := fun _ _ _ st hk => ⟨st.1.at fun o e => hk it (by simp) o e, st.2.at fun o e => hk t (by simp) o e⟩
  item := fun i s Q E hi st hQ => by
    refine drawT_item st.1 st.2 (x := items[i]) (by simp [hi]) fun h' hit' hs' => ?_
    exact hQ _ h' s.toks (by simp [hi]) ⟨hit', st.2.extBut hs'.extBut hne⟩ hs'
  done := fun s Q E st hE => drawT_end hh st.1 st.2 (by simp) hE
theorem meets_enumT (l : Addr) (items : Array Value) (n : Nat) :
    Meets (Builtin.«enumerate.__new__» ⟨[.type "enumerate", .ref l], []⟩) (fun _ R s => s.heap.get? l = some { cls := .type "tuple", dict := none, data := .seq items n, slots := #[] } ∧
      R (.ok (.ret (.ref (s.heap.push { cls := .type "tuple_iterator", data := .fields #[.ref l, .int 0 0] }).objs.size)))
        { s with heap := (s.heap.push { cls := .type "tuple_iterator", data := .fields #[.ref l, .int 0 0] }).push { cls := .type "enumerate", data := .fields #[.none, .bool false, .ref s.heap.objs.size, rawInt 0, .none, .none] } }) :=
  .of_wp fun prog w A R s h => by
    obtain ⟨hp, g, d, tk, os⟩ := s; obtain ⟨hl, h⟩ := h
    have hsub := PySem.sub_enumerate
    have hL : Heap.IsTuple (Shared.heap ⟨hp, g, d, tk, os⟩) l items := ⟨_, hl, rfl, n, rfl⟩
    wp_walk using PySem.AutoSeq1.wpAny_loadPart' hl
    refine wpAny_stack_any fun st => wpAny_pure ?_
    split
    · rename_i c _ _ _ _ _
      cases (c == Value.type "enumerate")
      · wp_walk using PySem.AutoSeq1.wpAny_loadPart' hl, wpAny_pyIter_tuple hL
        exact ⟨_, rfl, h⟩
      · wp_walk using PySem.AutoSeq1.wpAny_loadPart' hl, wpAny_pyIter_tuple hL
        exact ⟨_, rfl, h⟩
    · wp_walk using PySem.AutoSeq1.wpAny_loadPart' hl, wpAny_pyIter_tuple hL
      exact ⟨_, rfl, h⟩
end Mine

end

section
set_option maxRecDepth 100000
set_option autoImplicit false
set_option linter.unusedVariables false
namespace Mine
open PySem PySem.W PyProof.Rows PySem.Calls
open Sem (wp)

structure ZAp (z TI TO i1 i2 : Addr) (fp1 fp2 : List Addr) : Prop where
  z1 : z ∉ fp1
  z2 : z ∉ fp2
  o1 : TO ∉ fp1
  o2 : TO ∉ fp2
  m1 : i1 ∈ fp1
  m2 : i2 ∈ fp2
  c1 : i1 ∉ fp2
  c2 : i2 ∉ fp1
  oz : TO ≠ z
  tz : TI ≠ z
  to : TI ≠ TO
  t1 : TI ≠ i1
  t2 : TI ≠ i2
section
variable {prog : Program} {w : World} {A : Around} {E : Value → Shared → Prop} {s : Shared} {z TI TO i1 i2 : Addr} {fp1 fp2 : List Addr} {n : Nat} {P1 P2 : Nat → Value → Prop} {S1 S2 : Nat → Heap → Prop}
theorem Draws.stay {it : Addr} {fp : List Addr} {P : Nat → Value → Prop} {St : Nat → Heap → Prop} (D : Draws prog w A it fp n P St) {b : Addr} {h h' : Heap} {i : Nat} (hs : Heap.ExtBut b h h') (hb : b ∉ fp) (st : St i h) : St i h' :=
  D.frame i h h' st fun a ha o e => hs a o (fun q => hb (q ▸ ha)) e
theorem zD_item {a b : Value} {i : Nat} {Q : Value → Shared → Prop} (D1 : Draws prog w A i1 fp1 n P1 S1) (D2 : Draws prog w A i2 fp2 n P2 S2) (X : ZAp z TI TO i1 i2 fp1 fp2) (hi : i < n) (hz : IsZip s.heap z TI TO .none) (hTI : IsPair s.heap TI (.ref i1) (.ref i2)) (hTO : IsPair s.heap TO a b) (st1 : S1 i s.heap) (st2 : S2 i s.heap)
    (hQ : ∀ x y h' tk, P1 i x → P2 i y → IsZip h' z TI TO (rawInt s.heap.objs.size) → (∃ a b, IsPair h' TO a b) → S1 (i + 1) h' → S2 (i + 1) h' → IsPair h' s.heap.objs.size x y → (∀ c o, c ≠ z → c ≠ TO → c ≠ i1 → c ≠ i2 → s.heap.get? c = some o → h'.get? c = some o) → Q (.ref s.heap.objs.size) { s with heap := h', toks := tk }) :
    wpAny (model prog w) A (Builtin.«zip.__next__» ⟨[.ref z], []⟩) (fun fin s' => ∃ v, fin = .done (.ret v) ∧ Q v s') E s := by
  have zi1 : z ≠ i1 := fun e => X.z1 (e ▸ X.m1)
  have zi2 : z ≠ i2 := fun e => X.z2 (e ▸ X.m2)
  have oi1 : TO ≠ i1 := fun e => X.o1 (e ▸ X.m1)
  have oi2 : TO ≠ i2 := fun e => X.o2 (e ▸ X.m2)
  have i12 : i1 ≠ i2 := fun e => X.c1 (e ▸ X.m2)
  show wpAny _ _ (field (.ref z) 2 >>= _) _ _ _
  refine wpAny_bind (wpAny_field hz rfl (x := .bool false) rfl ?_)
  show wpAny _ _ (field (.ref z) 3 >>= _) _ _ _
  refine wpAny_bind (wpAny_field hz rfl (x := .ref TI) rfl (wpAny_bind (wpAny_seqItems hTI rfl ?_)))
  show wpAny _ _ (Builtin.SmallTypes.ownedTupleIsFree (.ref z) >>= _) _ _ _
  refine wpAny_bind ?_
  unfold Builtin.SmallTypes.ownedTupleIsFree
  refine wpAny_bind (wpAny_field hz rfl (x := .none) rfl (wpAny_pure ?_))
  simp only [if_true]
  refine wpAny_bind (wpAny_rule (wpAny_bind (wpAny_field hz rfl (x := .ref TO) rfl (wpAny_bind (wpAny_setField_rec hz (by simp) fun ha hza hsa => ?_)))))
  have hza : IsZip ha z TI TO .ellipsis := hza
  refine wpAny_bind ?_
  simp only [List.zipIdx_cons, List.zipIdx_nil, List.forIn_cons, List.forIn_nil]
  refine wpAny_bind (wpAny_bind (wpAny_onRaise ?_))
  show wpAny _ _ (Builtin.SmallTypes.nextOf (.ref i1) >>= _) _ _ _
  refine wpAny_bind (D1.item i _ _ _ hi (Draws.stay D1 hsa.extBut X.z1 st1) fun x hb tkb p1 st1b hsb => wpAny_pure ?_)
  have hTOb : IsPair hb TO a b := hsb.extBut _ _ oi1 (hsa.extBut _ _ X.oz hTO)
  refine wpAny_bind (wpAny_seqItems hTOb rfl (wpAny_bind (wpAny_updateSeq_pair hTOb fun hc hTOc hsc => wpAny_bind (wpAny_letGo (wpAny_pure ?_)))))
  have hTOc : IsPair hc TO x b := hTOc
  refine wpAny_bind (wpAny_bind (wpAny_onRaise ?_))
  show wpAny _ _ (Builtin.SmallTypes.nextOf (.ref i2) >>= _) _ _ _
  refine wpAny_bind (D2.item i _ _ _ hi (Draws.stay D2 hsc.extBut X.o2 (Draws.stay D2 hsb.extBut X.c1 (Draws.stay D2 hsa.extBut X.z2 st2))) fun y hd tkd p2 st2d hsd => wpAny_pure ?_)
  have hTOd : IsPair hd TO x b := hsd.extBut _ _ oi2 hTOc
  refine wpAny_bind (wpAny_seqItems hTOd rfl (wpAny_bind (wpAny_updateSeq_pair hTOd fun he hTOe hse => wpAny_bind (wpAny_letGo (wpAny_pure (wpAny_pure ?_))))))
  have hTOe : IsPair he TO x y := hTOe
  refine wpAny_bind (wpAny_seqItems hTOe rfl (wpAny_bind (wpAny_newTuple ?_)))
  have size : he.objs.size = s.heap.objs.size := by rw [hse.1, hsd.1, hsc.1, hsb.1, hsa.1]
  have hze : IsZip he z TI TO .ellipsis := hse.extBut _ _ X.oz.symm (hsd.extBut _ _ zi2 (hsc.extBut _ _ X.oz.symm (hsb.extBut _ _ zi1 hza)))
  have st1e : S1 (i + 1) he := Draws.stay D1 hse.extBut X.o1 (Draws.stay D1 hsd.extBut X.c2 (Draws.stay D1 hsc.extBut X.o1 st1b))
  have st2e : S2 (i + 1) he := Draws.stay D2 hse.extBut X.o2 st2d
  have keep : ∀ c o, c ≠ z → c ≠ TO → c ≠ i1 → c ≠ i2 → s.heap.get? c = some o → he.get? c = some o := fun c o k1 k2 k3 k4 e => hse.extBut _ _ k2 (hsd.extBut _ _ k4 (hsc.extBut _ _ k2 (hsb.extBut _ _ k3 (hsa.extBut _ _ k1 e))))
  have lz : z < he.objs.size := Heap.lt_size hze
  show wpAny _ _ (Builtin.SmallTypes.ownedTupleHandOut (.ref z) (.ref he.objs.size) >>= _) _ _ _
  refine wpAny_bind ?_
  unfold Builtin.SmallTypes.ownedTupleHandOut
  refine wpAny_bind (wpAny_setField_rec (Heap.get?_push_of_some _ hze) (by simp) fun hf hzf hsf => ?_)
  have hzf : IsZip hf z TI TO (rawInt he.objs.size) := hzf
  refine wpAny_setField_rec hzf (by simp) fun hg hzg hsg => ?_
  have hzg : IsZip hg z TI TO (rawInt he.objs.size) := hzg
  have up : ∀ c o, c ≠ z → he.get? c = some o → hg.get? c = some o := fun c o k e => hsg.extBut _ _ k (hsf.extBut _ _ k (Heap.get?_push_of_some _ e))
  have pair : IsPair hg he.objs.size x y := hsg.extBut _ _ (Nat.ne_of_gt lz) (hsf.extBut _ _ (Nat.ne_of_gt lz) (Heap.get?_push_size _ rfl))
  rw [size] at hzg pair
  refine wpAny_pure ⟨_, rfl, ?_⟩
  show Q (.ref he.objs.size) _
  rw [size]
  exact hQ x y hg _ p1 p2 hzg ⟨_, _, up _ _ X.oz hTOe⟩ (D1.frame _ _ _ st1e fun c hc o e => up c o (fun q => X.z1 (q ▸ hc)) e) (D2.frame _ _ _ st2e fun c hc o e => up c o (fun q => X.z2 (q ▸ hc)) e) pair fun c o k1 k2 k3 k4 e => up c o k1 (keep c o k1 k2 k3 k4 e)

theorem zD_end {Q : Fin → Shared → Prop} (D1 : Draws prog w A i1 fp1 n P1 S1) (X : ZAp z TI TO i1 i2 fp1 fp2) (hz : IsZip s.heap z TI TO .none) (hTI : IsPair s.heap TI (.ref i1) (.ref i2)) (st1 : S1 n s.heap)
    (hE : ∀ h' e, (∀ c o, c ≠ z → c ≠ TO → c ≠ i1 → c ≠ i2 → s.heap.get? c = some o → h'.get? c = some o) → (∃ o, h'.get? e = some o ∧ o.cls = .type "StopIteration") → E (.ref e) { s with heap := h' }) :
    wpAny (model prog w) A (Builtin.«zip.__next__» ⟨[.ref z], []⟩) Q E s := by
  have zi1 : z ≠ i1 := fun e => X.z1 (e ▸ X.m1)
  show wpAny _ _ (field (.ref z) 2 >>= _) _ _ _
  refine wpAny_bind (wpAny_field hz rfl (x := .bool false) rfl ?_)
  show wpAny _ _ (field (.ref z) 3 >>= _) _ _ _
  refine wpAny_bind (wpAny_field hz rfl (x := .ref TI) rfl (wpAny_bind (wpAny_seqItems hTI rfl ?_)))
  show wpAny _ _ (Builtin.SmallTypes.ownedTupleIsFree (.ref z) >>= _) _ _ _
  refine wpAny_bind ?_
  unfold Builtin.SmallTypes.ownedTupleIsFree
  refine wpAny_bind (wpAny_field hz rfl (x := .none) rfl (wpAny_pure ?_))
  simp only [if_true]
  refine wpAny_bind (wpAny_rule (wpAny_bind (wpAny_field hz rfl (x := .ref TO) rfl (wpAny_bind (wpAny_setField_rec hz (by simp) fun ha hza hsa => ?_)))))
  have hza : IsZip ha z TI TO .ellipsis := hza
  refine wpAny_bind ?_
  simp only [List.zipIdx_cons, List.zipIdx_nil, List.forIn_cons, List.forIn_nil]
  refine wpAny_bind (wpAny_bind (wpAny_onRaise ?_))
  show wpAny _ _ (Builtin.SmallTypes.nextOf (.ref i1) >>= _) _ _ _
  refine wpAny_bind (D1.done _ _ _ (Draws.stay D1 hsa.extBut X.z1 st1) fun hb e hsb he => ?_)
  obtain ⟨oe, hoe, hce⟩ := he
  have hzb : IsZip hb z TI TO .ellipsis := hsb _ _ zi1 hza
  have ez : e ≠ z := fun q => by subst q; rw [hzb] at hoe; cases hoe; simp at hce
  exact wpAny_setField_rec hzb (by simp) fun hc _ hsc => hE hc e (fun c o k1 _ k3 _ x => hsc.extBut _ _ k1 (hsb _ _ k3 (hsa.extBut _ _ k1 x))) ⟨oe, hsc.extBut _ _ ez hoe, hce⟩
end
end Mine

end

section
set_option maxRecDepth 100000
set_option autoImplicit false
set_option linter.unusedVariables false
namespace Mine
open PySem PySem.W PyProof.Rows PySem.Calls PyProof.Rows.LCg
open Sem (wp)
theorem walksZip {prog : Program} {w : World} {A : Around} {z TI TO i1 i2 : Addr} {fp1 fp2 : List Addr} {n : Nat} {P1 P2 : Nat → Value → Prop} {S1 S2 : Nat → Heap → Prop} (D1 : Draws prog w A.in1 i1 fp1 n P1 S1) (D2 : Draws prog w A.in1 i2 fp2 n P2 S2) (X : ZAp z TI TO i1 i2 fp1 fp2) :
    WalksT prog w A z (z :: TI :: TO :: (fp1 ++ fp2)) [z, TO, i1, i2] n
      (fun i vals => ∃ x y, P1 i x ∧ P2 i y ∧ vals = #[x, y])
      (fun i h => IsZip h z TI TO .none ∧ IsPair h TI (.ref i1) (.ref i2) ∧ (∃ a b, IsPair h TO a b) ∧ S1 i h ∧ S2 i h)
      (fun i T h => IsZip h z TI TO (rawInt T) ∧ IsPair h TI (.ref i1) (.ref i2) ∧ (∃ a b, IsPair h TO a b) ∧ S1 (i + 1) h ∧ S2 (i + 1) h ∧ T ∉ [z, TO, i1, i2]) where
  sub := fun c hc => by
    have m1 := X.m1
    have m2 := X.m2
    simp at hc ⊢; rcases hc with rfl | rfl | rfl | rfl <;> simp [m1, m2]
  frame := fun i h h' st hk => by
    obtain ⟨hz, hTI, ⟨a, b, hTO⟩, h1, h2⟩ := st
    exact ⟨hk z (by simp) _ hz, hk TI (by simp) _ hTI, ⟨a, b, hk TO (by simp) _ hTO⟩, D1.frame _ _ _ h1 fun c hc o e => hk c (by simp [hc]) o e, D2.frame _ _ _ h2 fun c hc o e => hk c (by simp [hc]) o e⟩
  item := fun i s Q E hi st hQ => by
    obtain ⟨hz, hTI, ⟨a, b, hTO⟩, h1, h2⟩ := st
    have hT : s.TypeIs (.ref z) "zip" := ⟨_, hz, rfl⟩
    unfold pyNext
    refine wpAny_bind (wpAny_attempt (wpAny_callSpecial?_slot (name := Str.ofString "__next__") hT F.slot_zip_next (wpAny_call_entry F.slot_zip_next hT F.entry_zip_next
      (zD_item D1 D2 X hi hz hTI hTO h1 h2 fun x y h' tk p1 p2 a1 a2 a3 a4 a5 hk => wpAny_pure ?_) (F.args_zip_next_1 _))))
    have lt : ∀ {c o}, s.heap.get? c = some o → s.heap.objs.size ≠ c := fun e => Nat.ne_of_gt (Heap.lt_size e)
    obtain ⟨o1, e1⟩ := D1.live _ _ h1
    obtain ⟨o2, e2⟩ := D2.live _ _ h2
    exact hQ s.heap.objs.size #[x, y] h' tk ⟨_, _, p1, p2, rfl⟩ (Nat.le_refl _) ⟨_, a5, rfl, _, rfl⟩ ⟨a1, hk _ _ X.tz X.to X.t1 X.t2 hTI, a2, a3, a4, by simp [lt hz, lt hTO, lt e1, lt e2]⟩
      fun c o hc e => hk c o (fun q => hc (by simp [q])) (fun q => hc (by simp [q])) (fun q => hc (by simp [q])) (fun q => hc (by simp [q])) e
  go := fun elts k pos i T s Q E hm hQ => by
    obtain ⟨hz, hTI, ⟨a, b, hTO⟩, h1, h2, _⟩ := hm
    exact wpAny_letOwnedTupleGo_zip hz fun h' hz' hs' => hQ h' ⟨hz', hs'.extBut _ _ X.tz hTI, ⟨a, b, hs'.extBut _ _ X.oz hTO⟩, Draws.stay D1 hs'.extBut X.z1 h1, Draws.stay D2 hs'.extBut X.z2 h2⟩ fun c o hc e => hs'.extBut _ _ (fun q => hc (by simp [q])) e
  apart := fun i T h hm hT => hm.2.2.2.2.2 hT
  done := fun s Q E st hQ => by
    obtain ⟨hz, hTI, ⟨a, b, hTO⟩, h1, h2⟩ := st
    have hT : s.TypeIs (.ref z) "zip" := ⟨_, hz, rfl⟩
    unfold pyNext
    refine wpAny_bind (wpAny_attempt (wpAny_callSpecial?_slot (name := Str.ofString "__next__") hT F.slot_zip_next (wpAny_call_entry F.slot_zip_next hT F.entry_zip_next (zD_end D1 X hz hTI h1 fun h' e hk he => ?_) (F.args_zip_next_1 _))))
    obtain ⟨o, ho, hc⟩ := he
    exact wpAny_bind (wpAny_isInstance (T := "StopIteration") (b := true) ⟨o, ho, hc⟩ isSubtype_stop (wpAny_pure (hQ h' s.toks fun c o hc e => hk c o (fun q => hc (by simp [q])) (fun q => hc (by simp [q])) (fun q => hc (by simp [q])) (fun q => hc (by simp [q])) e)))
  self := fun i s Q E st hQ => wpAny_pyIter_zip st.1 hQ
def zTup (h : Heap) (l1 l2 : Addr) : Heap :=
  (((((h.push { cls := .type "tuple_iterator", data := .fields #[.ref l1, .int 0 0] }).push { cls := .type "tuple_iterator", data := .fields #[.ref l2, .int 0 0] }).push { cls := .type "tuple", data := .seq #[.ref h.objs.size, .ref (h.objs.size + 1)] }).push { cls := .type "tuple", data := .seq #[.none, .none] }).push
    { cls := .type "zip", data := .fields #[.none, .bool false, .bool false, .ref (h.objs.size + 2), .ref (h.objs.size + 3)] })
theorem meets_zipT (l1 l2 : Addr) (xs ys : Array Value) :
    Meets (Builtin.«zip.__new__» ⟨[.type "zip", .ref l1, .ref l2], []⟩) (fun _ R s => s.heap.IsTuple l1 xs ∧ s.heap.IsTuple l2 ys ∧ R (.ok (.ret (.ref (s.heap.objs.size + 4)))) { s with heap := zTup s.heap l1 l2 }) :=
  .of_wp fun prog w A R s h => by
    obtain ⟨hp, g, d, tk, os⟩ := s; obtain ⟨hl1, hl2, h⟩ := h
    have hsub := sub_zip
    have T1 : Heap.IsTuple (Shared.heap ⟨hp, g, d, tk, os⟩) l1 xs := hl1
    have T2 : Heap.IsTuple (Shared.heap ⟨hp.push { cls := .type "tuple_iterator", data := .fields #[.ref l1, .int 0 0] }, g, d, tk, os⟩) l2 ys := (let ⟨o, e, r⟩ := hl2; ⟨o, Heap.get?_push_of_some _ e, r⟩)
    have z1 : ∀ o : Obj, (hp.push o).objs.size = hp.objs.size + 1 := fun o => Heap.size_push ..
    wp_walk using wpAny_pyIter_tuple T1, wpAny_pyIter_tuple T2
    refine ⟨_, rfl, ?_⟩
    simp only [zTup, Heap.size_push] at h ⊢
    exact h
theorem callZipT {prog : Program} {w : World} {A : Around} {E : Value → Shared → Prop} {s : Shared} {l1 l2 : Addr} {xs ys : Array Value} {Q : Value → Shared → Prop} (hl1 : s.heap.IsTuple l1 xs) (hl2 : s.heap.IsTuple l2 ys)
    (h : IsZip (zTup s.heap l1 l2) (s.heap.objs.size + 4) (s.heap.objs.size + 2) (s.heap.objs.size + 3) .none → Q (.ref (s.heap.objs.size + 4)) { s with heap := zTup s.heap l1 l2 }) : wpAny (model prog w) A (call (.type "zip") [.ref l1, .ref l2]) Q E s := by
  refine callType_new F.called_zip (by decide) (F.typeCall_zip_2 _ _) (F.newCall_zip_2 _ _) (fun obj => F.args_object_init_3 obj _ _) F.entry_zip_new (meets_zipT l1 l2 xs ys) ⟨hl1, hl2, ?_⟩
  have g : IsZip (zTup s.heap l1 l2) (s.heap.objs.size + 4) (s.heap.objs.size + 2) (s.heap.objs.size + 3) .none := by
    have := Heap.get?_push_size ((((s.heap.push { cls := .type "tuple_iterator", data := .fields #[.ref l1, .int 0 0] }).push { cls := .type "tuple_iterator", data := .fields #[.ref l2, .int 0 0] }).push { cls := .type "tuple", data := .seq #[.ref s.heap.objs.size, .ref (s.heap.objs.size + 1)] }).push { cls := .type "tuple", data := .seq #[.none, .none] }) (o := { cls := .type "zip", data := .fields #[.none, .bool false, .bool false, .ref (s.heap.objs.size + 2), .ref (s.heap.objs.size + 3)] }) rfl
    simp only [Heap.size_push] at this
    exact this
  exact ⟨⟨_, g, rfl⟩, h g⟩
end Mine

end

section
set_option maxRecDepth 100000
set_option autoImplicit false
set_option linter.unusedVariables false
namespace Mine
open PySem PySem.W PyProof.Rows PySem.Calls PyProof.Rows.LCg
section
variable {prog : Program} {w : World} {A : Around} {E : Value → Shared → Prop} {s : Shared} {h₀ : Heap} {L : Addr} {m : Str → Option Value} {env : Env}
theorem cmBlock1 {elt iter cond : Expr} {tst : Nat → Bool} {target : Expr} {scope : Scope} {cl : List (Str × Addr)} {pos : Pos} {s₂ : Shared} {I : Addr} {fp wr : List Addr} {n : Nat} {P Md : Nat → Value → Heap → Prop} {St : Nat → Heap → Prop} {led : List (Addr × Obj)} {Bind : Nat → (Str → Option Value) → Prop} {Φ : Nat → Value → List (Addr × Obj) → Prop}
    {RR : Value → Addr → Result → Shared → Prop}
    (W : KTurns prog w A target I fp wr n P Md St) (hsz : n ≤ sizeLine)
    (hself : ∀ (s : Shared) (Q : Value → Shared → Prop) (E : Value → Shared → Prop), St 0 s.heap → Q (.ref I) s → wpAny (model prog w) A (pyIter (.ref I)) Q E s)
    (hasg : ∀ C i v (s : Shared) (mC : Str → Option Value) (Q : Unit → Shared → Prop) (E : Value → Shared → Prop), P i v s.heap → s.heap.Ns C mC → (∀ h' tk m', h'.Ns C m' → Bind i m' → (∀ b o, b ≠ C → s.heap.get? b = some o → h'.get? b = some o) → Q () { s with heap := h', toks := tk }) → wpAny (model prog w) A (assign target (compEnvC scope cl C env) v) Q E s)
    (hcell : ∀ y ∈ scope.names, y.2 ≠ .cell) (hkind : scope.kind = .function) (hst : St 0 s₂.heap) (hfp : ∀ b ∈ fp, b < s₂.heap.objs.size) (hL : L ∉ fp) (hwr : ∀ b ∈ wr, h₀.get? b = none) (hwl : ∀ p ∈ led, p.1 ∉ wr)
    (F : Fr h₀ L s₂.heap m) (N : News h₀ L s₂.heap led) (hif : ∀ (C : Addr) i mC (s : Shared) (Q : Bool → Shared → Prop) (E : Value → Shared → Prop), i < n → Bind i mC → s.heap.Ns C mC → Q (tst i) s → wpAny (model prog w) A (isTrue cond (compEnvC scope cl C env) (eval cond (compEnvC scope cl C env))) Q E s) (helt : CmElt prog w A h₀ L m env scope cl elt led Bind Φ tst n)
    (hRR : ∀ (D C : Nat) h tk m' ys nw, Fr h₀ L h m → News h₀ L h ((D, lst ys) :: (nw ++ led)) → (∀ b ∈ led, @LT.lt Nat _ b.1 D) → (∀ r ∈ nw, @LT.lt Nat _ C r.1) → @LT.lt Nat _ D C → @LT.lt Nat _ L D → h.Ns C m' → h₀.get? C = none → h₀.get? D = none → MadeC Φ tst n ys nw → RR (.ref D) C (.ok .next) { s₂ with heap := h, toks := tk }) :
    wpAny (model prog w) A (newList []) (fun acc s₃ => wpAny (model prog w) A (newFunctionEnv scope env.globals cl [] env.qual none .none (some env)) (fun cenv s₄ =>
      codeAny (model prog w) A (.compStart (.ListComp elt [⟨target, iter, [cond], 0⟩] scope pos) 0 (.ref I) acc { cenv with scope := relabel scope env }) (RR acc cenv.locals) s₄) E s₃) E s₂ := by
  refine wpAny_newObj_type (wpAny_newFunctionEnv hcell (by intro y hy; simp at hy) (fun h₁ hns₁ hsb₁ => ?_) hkind)
  dsimp only at hns₁ hsb₁ ⊢
  generalize hH2 : s₂.heap.push { cls := .type "list", dict := none, data := .seq ([] : List Value).toArray } = H2 at hns₁ hsb₁ ⊢
  have hC : H2.objs.size = s₂.heap.objs.size + 1 := by rw [← hH2, Heap.size_push]
  have hDC : s₂.heap.objs.size ≠ H2.objs.size := by rw [hC]; exact Nat.ne_of_lt (Nat.lt_succ_self _)
  have hDlt : s₂.heap.objs.size < H2.objs.size := by rw [hC]; exact Nat.lt_succ_self _
  have below : ∀ b, b < s₂.heap.objs.size → b ≠ H2.objs.size ∧ b ≠ s₂.heap.objs.size := fun b hb => ⟨by rw [hC]; exact Nat.ne_of_lt (Nat.lt_succ_of_lt hb), Nat.ne_of_lt hb⟩
  have hDf : s₂.heap.objs.size ∉ fp := fun hm => Nat.lt_irrefl _ (hfp _ hm)
  have hCf : H2.objs.size ∉ fp := fun hm => by have := hfp _ hm; rw [hC] at this; exact Nat.lt_irrefl _ (Nat.lt_of_succ_lt this)
  have old : ∀ b o, s₂.heap.get? b = some o → h₁.get? b = some o := fun b o e => hsb₁.extBut b o (below b (Heap.lt_size e)).1 (Heap.get?_push_of_some _ (hH2 ▸ Heap.get?_push_of_some _ e))
  have hacc : h₁.get? s₂.heap.objs.size = some (lst []) := hsb₁.extBut _ _ hDC (Heap.get?_push_of_some _ (hH2 ▸ Heap.get?_push_size _ rfl))
  have hst₁ : St 0 h₁ := W.frame _ _ _ hst fun b _ o e => old b o e
  have fresh₀ : ∀ a, s₂.heap.objs.size ≤ a → h₀.get? a = none := fun a ha => by
    cases e : h₀.get? a with
    | none => rfl
    | some o' => exact absurd (Heap.lt_size (F.keep a o' e)) (Nat.not_lt.mpr ha)
  have hD₀ : h₀.get? s₂.heap.objs.size = none := fresh₀ _ (Nat.le_refl _)
  have hC₀ : h₀.get? H2.objs.size = none := fresh₀ _ (Nat.le_of_lt hDlt)
  have hLlt : L < s₂.heap.objs.size := F.ns.lt
  have hDL : s₂.heap.objs.size ≠ L := Ne.symm (below L hLlt).2
  have hCL : H2.objs.size ≠ L := Ne.symm (below L hLlt).1
  have hlo : ∀ p ∈ led, @LT.lt Nat _ p.1 s₂.heap.objs.size := fun p hp => Heap.lt_size (N p hp).1
  have hLwr : L ∉ wr := fun h => hL (W.sub L h)
  have hCwr : H2.objs.size ∉ wr := fun h => hCf (W.sub _ h)
  have hDwr : s₂.heap.objs.size ∉ wr := fun h => hDf (W.sub _ h)
  have hnw : ∀ b, H2.objs.size < b → b ∉ wr := fun b hb h => Nat.lt_irrefl _ (Nat.lt_trans (Nat.lt_trans hDlt hb) (hfp b (W.sub b h)))
  have loop : ∀ s₃ : Shared, s₃ = { s₂ with heap := h₁, toks := s₂.toks + ([] : List (Str × Value)).length } →
      codeAny (model prog w) A (.compLoop (.ListComp elt [⟨target, iter, [cond], 0⟩] scope pos) 0 (.ref I) (.ref s₂.heap.objs.size) (compEnvC scope cl H2.objs.size env))
        (RR (.ref s₂.heap.objs.size) H2.objs.size) s₃ := by
    rintro s₃ rfl
    refine kct_loop (fun k s' => ∃ i ys nw m', i ≤ n ∧ k = n + 1 - i ∧ CmInv h₀ L m s₂ H2.objs.size s₂.heap.objs.size led St Φ tst i s' ys nw m') ?_ (n + 1)
      ⟨0, [], [], _, Nat.zero_le _, rfl, ⟨⟨h₁, _, rfl⟩, Nat.le_refl _, hst₁, F.keeps old, hns₁, (fun p hp => ?_), (fun r hr => nomatch hr), ⟨rfl, rfl⟩⟩⟩
    · rintro k s' ⟨i, ys, nw, m', hi, rfl, X⟩
      obtain ⟨h', tk, rfl⟩ := X.st
      have offp : ∀ p ∈ (s₂.heap.objs.size, lst ys) :: (nw ++ led), p.1 ∉ wr ∧ p.1 ≠ H2.objs.size := fun p hp => by
        rcases List.mem_cons.mp hp with rfl | hp
        · exact ⟨hDwr, hDC⟩
        rcases List.mem_append.mp hp with hp | hp
        · exact ⟨hnw _ (X.hi p hp), Nat.ne_of_gt (X.hi p hp)⟩
        · exact ⟨hwl p hp, Nat.ne_of_lt (Nat.lt_trans (hlo p hp) hDlt)⟩
      by_cases hlt : i < n
      · refine W.item i _ _ _ hlt X.src fun v h₂ tk₂ hMd hk₂ => ?_
        refine W.go i v _ _ _ hMd fun h₃ hP hst₃ hk₃ => ?_
        have up₃ : ∀ b o, b ∉ wr → h'.get? b = some o → h₃.get? b = some o := fun b o hb e => hk₃ b o hb (hk₂ b o hb e)
        refine hasg _ i v _ _ _ _ hP (X.ns.at' fun o e => up₃ _ o hCwr e) fun h₄ tk₄ m₄ hn₄ hB hs₄ => ?_
        have up : ∀ b o, b ∉ wr → b ≠ H2.objs.size → h'.get? b = some o → h₄.get? b = some o := fun b o h1 h2 e => hs₄ b o h2 (up₃ b o h1 e)
        refine hif _ i m₄ _ _ _ hlt hB hn₄ ?_
        have srcN : St (i + 1) h₄ := W.frame _ _ _ hst₃ fun b hb o e => hs₄ b o (fun q => hCf (q ▸ hb)) e
        have frN : Fr h₀ L h₄ m := ⟨X.fr.ns.at' fun o e => up _ o hLwr (Ne.symm hCL) e, fun b o e => up b o (fun q => by rw [hwr b q] at e; cases e) (fun q => by rw [q, hC₀] at e; cases e) (X.fr.keep b o e), X.fr.above⟩
        have nwN : News h₀ L h₄ ((s₂.heap.objs.size, lst ys) :: (nw ++ led)) := fun p hp => ⟨up _ _ (offp p hp).1 (offp p hp).2 (X.nws p hp).1, (X.nws p hp).2⟩
        by_cases ht : tst i = true
        · rw [if_pos ht]
          refine wpAny_mono (cm_elt (s₂ := s₂) W hsz hlt hL hDf hDL hD₀ hCL hC₀ hDlt hlo helt ht ⟨h₄, tk₄, rfl⟩ X.len srcN frN hn₄ nwN X.hi X.made hB) (fun x s₅ h₅ => ?_) fun _ _ e => e
          refine wpAny_mono h₅ (fun _ s₆ h₆ => ?_) fun _ _ e => e
          obtain ⟨ys', nw', m₆, X'⟩ := h₆
          exact ⟨n + 1 - (i + 1), by omega, i + 1, ys', nw', m₆, hlt, rfl, X'⟩
        · rw [if_neg ht]
          exact ⟨n + 1 - (i + 1), by omega, i + 1, ys, nw, m₄, hlt, rfl, ⟨⟨h₄, tk₄, rfl⟩, Nat.le_succ_of_le X.len, srcN, frN, hn₄, nwN, X.hi, .inr ⟨by simpa using ht, X.made⟩⟩⟩
      · obtain rfl : i = n := Nat.le_antisymm hi (Nat.not_lt.mp hlt)
        refine W.done _ _ _ X.src fun h₂ tk₂ hk₂ => ?_
        exact hRR _ _ h₂ tk₂ m' ys nw ⟨X.fr.ns.at' fun o e => hk₂ _ o hLwr e, fun b o e => hk₂ b o (fun q => by rw [hwr b q] at e; cases e) (X.fr.keep b o e), X.fr.above⟩ (fun p hp => ⟨hk₂ _ _ (offp p hp).1 (X.nws p hp).1, (X.nws p hp).2⟩) hlo X.hi hDlt hLlt (X.ns.at' fun o e => hk₂ _ o hCwr e) hC₀ hD₀ X.made
    · rcases List.mem_cons.mp hp with rfl | hp
      · exact ⟨hacc, hDL, hD₀⟩
      · exact ⟨old _ _ (N p hp).1, (N p hp).2⟩
  exact codeAny_compStart_list (loop _ rfl) (hself _ _ _ hst₁ (loop _ rfl))
end
end Mine

end

section
set_option maxRecDepth 100000
set_option autoImplicit false
set_option linter.unusedVariables false
namespace Mine
open PySem PySem.W PyProof.Rows PySem.Calls
theorem enum_no_len : typeLookup (.type "enumerate") "__len__" = pure none := by rw [typeLookup_type, builtinLookup_eq_fast]; kernel_rfl
theorem enum_no_hint : typeLookup (.type "enumerate") "__length_hint__" = pure none := by rw [typeLookup_type, builtinLookup_eq_fast]; kernel_rfl

abbrev EnumH (h : Heap) (e it : Addr) (i : Int) (old : Value) (T : Addr) (b : Bool) : Prop :=
  h.get? e = some { cls := .type "enumerate", dict := none, data := .fields #[rawInt T, .bool b, .ref it, rawInt i, .none, old], slots := #[] }
section
variable {prog : Program} {w : World} {A : Around} {E : Value → Shared → Prop} {s : Shared}
theorem enum_heldB {e it T : Addr} {b : Bool} {fp : List Addr} {n i : Nat} {P : Nat → Value → Prop} {St : Nat → Heap → Prop} {old : Value} {oT : Obj} {Q : Value → Shared → Prop}
    (D : Draws prog w A it fp n P St) (he : EnumH s.heap e it i old T b) (hst : St i s.heap) (hlt : i < n) (hne : e ≠ it) (hef : e ∉ fp) (hT : s.heap.get? T = some oT) (hTe : T ≠ e) (hTi : T ≠ it)
    (hQ : ∀ x h' tk, P i x → EnumH h' e it ((i : Int) + 1) old T true → St (i + 1) h' →
      h'.get? s.heap.objs.size = some { cls := .type "tuple", data := .seq #[.int i tk, x] } → h'.objs.size = s.heap.objs.size + 1 →
      (∀ b o, b ≠ e → b ≠ it → s.heap.get? b = some o → h'.get? b = some o) → Q (.ref s.heap.objs.size) { s with heap := h', toks := tk + 1 }) :
    wpAny (model prog w) A (Builtin.«enumerate.__next__» ⟨[.ref e], []⟩) (fun fin s' => ∃ v, fin = .done (.ret v) ∧ Q v s') E s := by
  obtain ⟨hp, g, d, tk₀, os⟩ := s
  show wpAny _ _ (field (.ref e) 2 >>= _) _ _ _
  refine wpAny_bind (wpAny_field he rfl (x := .ref it) rfl ?_)
  refine wpAny_bind (D.item i _ _ _ hlt hst fun x h₁ tk hPx hit₁ hs₁ => ?_)
  replace hs₁ : Heap.SameBut it hp h₁ := hs₁
  have he₁ : EnumH h₁ e it i old T b := (hs₁.2 e hne).trans he
  show wpAny _ _ (field (.ref e) 3 >>= _) _ _ ⟨h₁, g, d, tk, os⟩
  refine wpAny_bind (wpAny_field he₁ rfl (x := rawInt i) rfl ?_)
  show wpAny _ _ (field (.ref e) 4 >>= _) _ _ ⟨h₁, g, d, tk, os⟩
  refine wpAny_bind (wpAny_field he₁ rfl (x := .none) rfl ?_)
  show wpAny _ _ (mkInt i >>= _) _ _ ⟨h₁, g, d, tk, os⟩
  refine wpAny_bind (wpAny_mkInt ?_)
  show wpAny _ _ (setField (.ref e) 3 (rawInt ((i : Int) + 1)) >>= _) _ _ ⟨h₁, g, d, tk + 1, os⟩
  refine wpAny_bind (wpAny_setField_rec he₁ (by simp) fun h₂ he₂ hs₂ => ?_)
  replace hs₂ : Heap.SameBut e h₁ h₂ := hs₂
  replace he₂ : EnumH h₂ e it ((i : Int) + 1) old T b := he₂
  show wpAny _ _ (setField (.ref e) 4 .none >>= _) _ _ ⟨h₂, g, d, tk + 1, os⟩
  refine wpAny_bind (wpAny_setField_rec he₂ (by simp) fun h₃ he₃ hs₃ => ?_)
  replace hs₃ : Heap.SameBut e h₂ h₃ := hs₃
  replace he₃ : EnumH h₃ e it ((i : Int) + 1) old T b := he₃
  show wpAny _ _ (newTuple [.int i tk, x] >>= _) _ _ ⟨h₃, g, d, tk + 1, os⟩
  refine wpAny_bind (wpAny_newTuple ?_)
  have he₄ : EnumH (h₃.push { cls := .type "tuple", data := .seq #[.int i tk, x] }) e it ((i : Int) + 1) old T b := Heap.get?_push_of_some _ he₃
  generalize hh₄ : h₃.push { cls := .type "tuple", data := .seq #[.int i tk, x] } = h₄ at he₄
  have hsz : h₃.objs.size = hp.objs.size := by rw [hs₃.1, hs₂.1, hs₁.1]
  have hel : e < hp.objs.size := Heap.lt_size he
  have ht₄ : h₄.get? hp.objs.size = some { cls := .type "tuple", data := .seq #[.int i tk, x] } := by rw [← hh₄, ← hsz]; exact Heap.get?_push_size _ rfl
  have hz₄ : h₄.objs.size = hp.objs.size + 1 := by rw [← hh₄, Heap.size_push, hsz]
  have hk₄ : ∀ b o, b ≠ e → b ≠ it → hp.get? b = some o → h₄.get? b = some o := fun b o hbe hbi hb => by
    rw [← hh₄]; exact Heap.get?_push_of_some _ (hs₃.extBut b o hbe (hs₂.extBut b o hbe (hs₁.extBut b o hbi hb)))
  have hit₄ : St (i + 1) h₄ := D.frame _ _ _ hit₁ fun b hb o y => by
    have hbe : b ≠ e := fun q => hef (q ▸ hb)
    rw [← hh₄]; exact Heap.get?_push_of_some _ (hs₃.extBut b o hbe (hs₂.extBut b o hbe y))
  show wpAny _ _ (Builtin.SmallTypes.ownedTupleIsFree (.ref e) >>= _) _ _ ⟨h₄, g, d, tk + 1, os⟩
  rw [hsz]
  clear hh₄ he₃ hs₃ he₂ hs₂ he₁ hs₁ hit₁ hsz h₃ h₂ h₁
  have hT₄ : h₄.get? T = some oT := hk₄ T oT hTe hTi hT
  have fin : ∀ h₅ : Heap, EnumH h₅ e it ((i : Int) + 1) old T true → Heap.SameBut e h₄ h₅ → Q (.ref hp.objs.size) ⟨h₅, g, d, tk + 1, os⟩ := fun h₅ he₅ hs₅ =>
    hQ x h₅ tk hPx he₅ (D.frame _ _ _ hit₄ fun b hb o y => hs₅.extBut b o (fun q => hef (q ▸ hb)) y) (hs₅.extBut _ _ (Nat.ne_of_gt hel) ht₄) (by show h₅.objs.size = hp.objs.size + 1; rw [hs₅.1, hz₄]) fun b o hbe hbi hb => hs₅.extBut b o hbe (hk₄ b o hbe hbi hb)
  refine wpAny_bind ?_
  unfold Builtin.SmallTypes.ownedTupleIsFree
  refine wpAny_bind (wpAny_field he₄ rfl (x := rawInt T) rfl ?_)
  show wpAny _ _ (loadIfAlive ((T : Int).toNat) >>= _) _ _ _
  rw [Int.toNat_natCast]
  refine wpAny_bind (kdx_alive hT₄ ?_)
  simp only [Option.isNone_some, Bool.false_eq_true, if_false]
  refine wpAny_bind (wpAny_field he₄ rfl (x := .bool b) rfl ?_)
  cases b with
  | true =>
    rw [if_neg (show ¬ ((Value.bool true != Value.bool true) = true) from Bool.false_ne_true)]
    refine wpAny_pure ?_
    simp only [Bool.false_eq_true, if_false]
    exact wpAny_pure ⟨_, rfl, fin h₄ he₄ (Heap.SameBut.refl _ _)⟩
  | false =>
    rw [if_pos (show (Value.bool false != Value.bool true) = true from rfl)]
    refine wpAny_bind (wpAny_setField_rec he₄ (by simp) fun h₅ he₅ hs₅ => ?_)
    refine wpAny_pure ?_
    simp only [Bool.false_eq_true, if_false]
    exact wpAny_pure ⟨_, rfl, fin h₅ he₅ hs₅⟩
theorem enum_held {e it T : Addr} {b : Bool} {fp : List Addr} {n i : Nat} {P : Nat → Value → Prop} {St : Nat → Heap → Prop} {old : Value} {oT : Obj} {Q : Option Value → Shared → Prop}
    (D : Draws prog w A.in1 it fp n P St) (he : EnumH s.heap e it i old T b) (hst : St i s.heap) (hlt : i < n) (hne : e ≠ it) (hef : e ∉ fp) (hT : s.heap.get? T = some oT) (hTe : T ≠ e) (hTi : T ≠ it)
    (hQ : ∀ x h' tk, P i x → EnumH h' e it ((i : Int) + 1) old T true → St (i + 1) h' →
      h'.get? s.heap.objs.size = some { cls := .type "tuple", data := .seq #[.int i tk, x] } → h'.objs.size = s.heap.objs.size + 1 →
      (∀ b o, b ≠ e → b ≠ it → s.heap.get? b = some o → h'.get? b = some o) → Q (some (.ref s.heap.objs.size)) { s with heap := h', toks := tk + 1 }) :
    wpAny (model prog w) A (pyNext (.ref e)) Q E s := by
  have hTy : s.TypeIs (.ref e) "enumerate" := ⟨_, he, rfl⟩
  unfold pyNext
  exact wpAny_bind (wpAny_attempt (wpAny_callSpecial?_slot (name := Str.ofString "__next__") hTy PySem.F.slot_enumerate_next
    (wpAny_call_entry PySem.F.slot_enumerate_next hTy PySem.F.entry_enumerate_next
      (enum_heldB D he hst hlt hne hef hT hTe hTi fun x h' tk a b c d k q => wpAny_pure (hQ x h' tk a b c d k q)) (PySem.F.args_enumerate_next_1 _))))
theorem enum_heldE {e it T : Addr} {b : Bool} {fp : List Addr} {n : Nat} {P : Nat → Value → Prop} {St : Nat → Heap → Prop} {i : Int} {old : Value} {Q : Option Value → Shared → Prop}
    (D : Draws prog w A.in1 it fp n P St) (he : EnumH s.heap e it i old T b) (hst : St n s.heap)
    (hQ : ∀ h', Heap.ExtBut it s.heap h' → Q none { s with heap := h' }) : wpAny (model prog w) A (pyNext (.ref e)) Q E s := by
  have hT : s.TypeIs (.ref e) "enumerate" := ⟨_, he, rfl⟩
  unfold pyNext
  refine wpAny_bind (wpAny_attempt (wpAny_callSpecial?_slot (name := Str.ofString "__next__") hT PySem.F.slot_enumerate_next
    (wpAny_call_entry PySem.F.slot_enumerate_next hT PySem.F.entry_enumerate_next ?_ (PySem.F.args_enumerate_next_1 _))))
  show wpAny _ _ (field (.ref e) 2 >>= _) _ _ _
  refine wpAny_bind (wpAny_field he rfl (x := .ref it) rfl ?_)
  refine wpAny_bind (D.done _ _ _ hst fun h' x he' hx' => ?_)
  obtain ⟨o, ho, hc⟩ := hx'
  refine wpAny_bind (wpAny_isInstance (T := "StopIteration") (b := true) ⟨o, ho, hc⟩ isSubtype_stop ?_)
  exact wpAny_pure (hQ _ he')

theorem ext_turn {S I : Addr} {res : Value} {R : Result → Shared → Prop} {acc : Array Value} {c : Nat} (hS : s.heap.get? S = some { cls := .type "list", dict := none, data := .seq acc c, slots := #[] }) (hz : acc.size < 1000)
    (h : wpAny (model prog w) A.in1 (pyNext (.ref I)) (fun r s' => ∃ v, r = some v ∧ s'.heap.get? S = some { cls := .type "list", dict := none, data := .seq acc c, slots := #[] } ∧
      ∀ h', h'.objs.size = s'.heap.objs.size → (∀ b o, b ≠ S → s'.heap.get? b = some o → h'.get? b = some o) → (∃ c', h'.get? S = some { cls := .type "list", dict := none, data := .seq (acc.push v) c', slots := #[] }) → codeAny (model prog w) A (.builtin "list.extend.loop" ⟨[.ref S, .ref I, res], []⟩) R { s' with heap := h' }) (fun _ _ => False) s) :
    codeAny (model prog w) A (.builtin "list.extend.loop" ⟨[.ref S, .ref I, res], []⟩) R s := by
  refine codeAny_builtin PySem.F.entry_extend_loop ?_
  rw [Around.under_plainId PySem.F.plain_extend_loop _]
  show wpAny _ A.in1 (pyNext (.ref I) >>= _) _ _ s
  refine wpAny_bind (wpAny_mono h (fun r s' hr => ?_) (fun _ _ h => h.elim))
  obtain ⟨v, rfl, hS', k⟩ := hr
  show wpAny _ A.in1 (updateSeq S (·.push v) >>= _) _ _ _
  refine wpAny_bind ?_
  refine wpAny_updateSeq hS' rfl (wpAny_pure ⟨plainId_quiet PySem.F.plain_extend_loop _, k _ (Heap.size_update ..) (fun b o hb e => (Heap.get?_update_other _ _ (Ne.symm hb)).trans e) ⟨_, Heap.get?_update_self _ hS' rfl⟩⟩) (by rw [sizeLine_eq]; omega) (by show (acc.push v).size ≤ sizeLine + 1; rw [Array.size_push, sizeLine_eq]; omega)
theorem ext_done {S I : Addr} {res : Value} {R : Result → Shared → Prop} (h : wpAny (model prog w) A.in1 (pyNext (.ref I)) (fun r s' => r = none ∧ R (.ok (.ret res)) s') (fun _ _ => False) s) :
    codeAny (model prog w) A (.builtin "list.extend.loop" ⟨[.ref S, .ref I, res], []⟩) R s := by
  refine codeAny_builtin PySem.F.entry_extend_loop ?_
  rw [Around.under_plainId PySem.F.plain_extend_loop _]
  show wpAny _ A.in1 (pyNext (.ref I) >>= _) _ _ s
  refine wpAny_bind (wpAny_mono h (fun r s' hr => ?_) (fun _ _ h => h.elim))
  obtain ⟨rfl, k⟩ := hr
  exact wpAny_pure k

theorem list_enum {I it : Addr} {i : Int} {old : Value} {Q : Value → Shared → Prop} (he : IsEnum s.heap I it i old)
    (hloop : ∀ h' c, h'.objs.size = s.heap.objs.size + 1 → (∀ b o, s.heap.get? b = some o → h'.get? b = some o) → h'.get? s.heap.objs.size = some { cls := .type "list", dict := none, data := .seq #[] c, slots := #[] } →
      codeAny (model prog w) A.in1 (.builtin "list.extend.loop" ⟨[.ref s.heap.objs.size, .ref I, .none], []⟩) (wants (fun r s₂ => r = .none ∧ Q (.ref s.heap.objs.size) s₂) E) { s with heap := h' }) :
    wpAny (model prog w) A (call (.type "list") [.ref I]) Q E s := by
  have hI : I < s.heap.objs.size := Heap.lt_size he
  refine callType_codes (Q₁ := fun obj s₁ => obj = .ref s.heap.objs.size ∧ s₁ = { s with heap := s.heap.push { cls := .type "list", data := .seq #[] } }) PySem.F.called_list (PySem.F.typeCall_list_1 _) PySem.F.entry_list_init
    (code_list_new _ ⟨rfl, rfl⟩) fun obj s₁ h₁ => ?_
  obtain ⟨rfl, rfl⟩ := h₁
  generalize hS0 : s.heap.objs.size = S at *
  have hS : (s.heap.push { cls := .type "list", data := .seq #[] }).get? S = some { cls := .type "list", data := .seq #[] } := by rw [← hS0]; exact Heap.get?_push_size _ rfl
  have hz1 : (s.heap.push { cls := .type "list", data := .seq #[] }).objs.size = S + 1 := by rw [Heap.size_push, hS0]
  have hSI : S ≠ I := Nat.ne_of_gt hI
  refine ⟨⟨_, hS, rfl⟩, PySem.F.args_list_init_2 _ _, ?_⟩
  have old1 : ∀ b o, s.heap.get? b = some o → (s.heap.push { cls := .type "list", data := .seq #[] }).get? b = some o := fun b o e => Heap.get?_push_of_some _ e
  have neS : ∀ b o, s.heap.get? b = some o → b ≠ S := fun b o e => by rw [← hS0]; exact Nat.ne_of_lt (Heap.lt_size e)
  generalize s.heap.push { cls := .type "list", data := .seq #[] } = h1 at hS hz1 old1 ⊢
  show wpAny _ A.in1.in1 (do let old ← Builtin.List.listItems (.ref S); Builtin.List.listUpdate (.ref S) (fun _ => #[]); letGo old.toList.reverse; Builtin.List.listExtendWith (.ref S) (.ref I) .none) _ _ _
  refine wpAny_bind ?_
  unfold Builtin.List.listItems
  refine wpAny_bind (wpAny_seqItems hS rfl (wpAny_pure ?_))
  show wpAny _ A.in1.in1 (updateSeq S (fun _ => #[]) >>= fun _ => letGo (#[] : Array Value).toList.reverse >>= fun _ => Builtin.List.listExtendWith (.ref S) (.ref I) .none) _ _ _
  refine wpAny_bind (wpAny_updateSeq hS rfl ?_)
  have hS₂ := Heap.get?_update_self (Obj.mapSeq (fun _ => (#[] : Array Value))) hS rfl
  have oth : ∀ b o, b ≠ S → h1.get? b = some o → (h1.update S (Obj.mapSeq (fun _ => (#[] : Array Value)))).get? b = some o := fun b o hb e => (Heap.get?_update_other _ _ (Ne.symm hb)).trans e
  have hz2 : (h1.update S (Obj.mapSeq (fun _ => (#[] : Array Value)))).objs.size = S + 1 := by rw [Heap.size_update, hz1]
  refine wpAny_bind (wpAny_letGo ?_)
  dsimp only at hS₂ oth hz2 ⊢
  generalize h1.update S (Obj.mapSeq (fun _ => (#[] : Array Value))) = h2 at hS₂ oth hz2 ⊢
  have he2 : h2.get? I = _ := oth _ _ hSI.symm (old1 _ _ he)
  have hT : Shared.TypeIs { s with heap := h2 } (.ref I) "enumerate" := ⟨_, he2, rfl⟩
  unfold Builtin.List.listExtendWith
  refine wpAny_bind (wpAny_typeOf hT ?_)
  have h1' : Builtin.List.listSameRef (.ref S) (.ref I) = false := by simp [Builtin.List.listSameRef, hSI]
  have h2' : (Value.type "enumerate" == Value.type "list") = false := by decide
  have h3' : (Value.type "enumerate" == Value.type "tuple") = false := by decide
  simp only [h1', h2', h3', Bool.or_false, Bool.false_eq_true, if_false]
  refine wpAny_bind (wpAny_pyIter_enum he2 ?_)
  refine wpAny_bind (wpAny_holding ?_)
  unfold Builtin.List.listLengthHint
  refine wpAny_bind (wpAny_specialOf hT enum_no_len ?_)
  show wpAny _ A.in1.in1 (specialOf (Value.ref I) (Str.ofString "__length_hint__") >>= _) _ _ _
  refine wpAny_bind (wpAny_specialOf hT enum_no_hint ?_)
  refine wpAny_pure ?_
  show wpAny _ A.in1.in1 (rule "list.extend.makes-room" >>= fun _ => Builtin.List.listTouch (.ref S) >>= fun _ =>
    again (.builtin "list.extend.loop" ⟨[.ref S, .ref I, .none], []⟩)) _ _ _
  refine wpAny_bind (wpAny_rule ?_)
  refine wpAny_bind ?_
  show wpAny _ A.in1.in1 (updateSeq S (·.push .none) >>= fun _ => updateSeq S (·.pop)) _ _ _
  refine wpAny_bind (wpAny_updateSeq hS₂ rfl ?_)
  have hS₃ := Heap.get?_update_self (Obj.mapSeq (·.push Value.none)) hS₂ rfl
  refine wpAny_updateSeq (hz := by seq_fits) hS₃ rfl ?_
  have hS₄ := Heap.get?_update_self (Obj.mapSeq (·.pop)) hS₃ rfl
  refine wpAny_pure ⟨plainId_quiet PySem.F.plain_extend_loop _, hloop _ _ ?_ (fun b o e => ?_) hS₄⟩
  · rw [Heap.size_update, Heap.size_update, hz2]
  · have hb := neS b o e
    exact (Heap.get?_update_other _ _ (Ne.symm hb)).trans ((Heap.get?_update_other _ _ (Ne.symm hb)).trans (oth b o hb (old1 b o e)))
end
end Mine

end

section
set_option maxRecDepth 100000
set_option autoImplicit false
set_option linter.unusedVariables false
namespace Mine
open PySem PySem.W PyProof.Rows PySem.Calls PyProof.Rows.LCg


inductive V where
  | int (i : Int) | bool (b : Bool) | old (v : Value) | tup (vs : List V) | lst (k : Nat) | inst (C : Addr) (fs : List (Str × V)) | rng (a b c : Int) | flst (vs : List V)
abbrev rngO (a b c : Int) (t u v : Tok) : Obj := { cls := .type "range", data := .fields #[.int a t, .int b u, .int c v] }
structure Wd where
  news : List (Addr × Obj)
  al : List Addr
mutual
inductive VR (W : Wd) : V → Value → Prop
  | int {i : Int} {t : Tok} : VR W (.int i) (.int i t)
  | bool {b : Bool} : VR W (.bool b) (.bool b)
  | old {v : Value} : VR W (.old v) v
  | tup {a : Addr} {vs : List V} {xs : List Value} : (a, tupO xs.toArray) ∈ W.news → VRs W vs xs → VR W (.tup vs) (.ref a)
  | lst {k : Nat} {a : Addr} : W.al[k]? = some a → VR W (.lst k) (.ref a)
  | inst {a d C : Addr} {es : List DictEntry} {fs : List (Str × V)} : (a, instObj C d) ∈ W.news → (d, dictOf es es.length) ∈ W.news → FRs W fs es → VR W (.inst C fs) (.ref a)
  | flst {a : Addr} {n : Nat} {vs : List V} {xs : List Value} : (a, listOf xs.toArray n) ∈ W.news → a ∉ W.al → VRs W vs xs → VR W (.flst vs) (.ref a)
  | rng {r : Addr} {a b c : Int} {t u v : Tok} : (r, rngO a b c t u v) ∈ W.news → VR W (.rng a b c) (.ref r)
inductive VRs (W : Wd) : List V → List Value → Prop
  | nil : VRs W [] []
  | cons {v : V} {x : Value} {vs : List V} {xs : List Value} : VR W v x → VRs W vs xs → VRs W (v :: vs) (x :: xs)
inductive FRs (W : Wd) : List (Str × V) → List DictEntry → Prop
  | nil : FRs W [] []
  | cons {k : Str} {t : Tok} {v : V} {h : Int} {x : Value} {fs : List (Str × V)} {es : List DictEntry} : VR W v x → FRs W fs es → FRs W ((k, v) :: fs) (⟨h, .str k t, x⟩ :: es)
end
def lsB (o : Obj) : Bool := o.cls == .type "list"
def tabB (o : Obj) : Bool := match o.data with
  | .fields _ => o.cls == .none
  | _ => false
def isCel (o : Obj) : Bool := match o.data with
  | .cell _ => true
  | _ => false

structure Keep (al own : List Addr) (p : Addr × Obj) : Prop where
  l : lsB p.2 = true → p.1 ∉ al
  t : tabB p.2 = false
  c : isCel p.2 = true → p.1 ∉ own
structure Le (own : List Addr) (W W' : Wd) : Prop where
  k : ∀ p ∈ W.news, Keep W.al own p → p ∈ W'.news
  al : ∀ (i : Nat) (a : Addr), W.al[i]? = some a → W'.al[i]? = some a
  an : ∀ a ∈ W'.al, a ∈ W.al ∨ ∀ p ∈ W.news, p.1 ≠ a
  ad : ∀ p ∈ W.news, ∃ q ∈ W'.news, q.1 = p.1
theorem Le.refl (own : List Addr) (W : Wd) : Le own W W := ⟨fun _ h _ => h, fun _ _ h => h, fun _ h => .inl h, fun p h => ⟨p, h, rfl⟩⟩
theorem Keep.go {own : List Addr} {W W' : Wd} {p : Addr × Obj} (x : Le own W W') (hp : p ∈ W.news) (h : Keep W.al own p) : Keep W'.al own p :=
  ⟨fun q m => (x.an _ m).elim (h.l q) fun k => k p hp rfl, h.t, h.c⟩
theorem Le.trans {own : List Addr} {W W' W'' : Wd} (x : Le own W W') (y : Le own W' W'') : Le own W W'' := ⟨fun p h q => y.k p (x.k p h q) (q.go x h), fun i a h => y.al i a (x.al i a h), fun a h => by
  rcases y.an a h with h | h
  · exact x.an a h
  · refine .inr fun p hp q => ?_
    obtain ⟨r, hr, e⟩ := x.ad p hp
    exact h r hr (e.trans q), fun p hp => by
  obtain ⟨q, hq, e⟩ := x.ad p hp
  obtain ⟨r, hr, e'⟩ := y.ad q hq
  exact ⟨r, hr, e'.trans e⟩⟩
theorem Keep.nil {al own : List Addr} {p : Addr × Obj} (h : Keep al own p) : Keep al [] p := ⟨h.l, h.t, fun _ q => nomatch q⟩
theorem Le.own {own : List Addr} {W W' : Wd} (x : Le [] W W') : Le own W W' := ⟨fun p h q => x.k p h q.nil, x.al, x.an, x.ad⟩
theorem keep_tup (al own : List Addr) (a : Addr) (vs : Array Value) : Keep al own (a, tupO vs) := ⟨fun h => absurd (beq_iff_eq.mp h) (fun h => absurd (Value.type.inj h) (by decide)), rfl, fun h => nomatch h⟩
theorem keep_inst (al own : List Addr) (a C d : Addr) : Keep al own (a, instObj C d) := ⟨fun h => absurd (beq_iff_eq.mp h) (fun h => nomatch h), rfl, fun h => nomatch h⟩
theorem keep_dict (al own : List Addr) (a : Addr) (es : List DictEntry) (n : Nat) : Keep al own (a, dictOf es n) := ⟨fun h => absurd (beq_iff_eq.mp h) (fun h => absurd (Value.type.inj h) (by decide)), rfl, fun h => nomatch h⟩
theorem keep_rng (al own : List Addr) (r : Addr) (a b c : Int) (t u v : Tok) : Keep al own (r, rngO a b c t u v) := ⟨fun h => absurd (beq_iff_eq.mp h) (fun h => absurd (Value.type.inj h) (by decide)), beq_eq_false_iff_ne.mpr (fun h => nomatch h), fun h => nomatch h⟩
theorem keep_flst (al own : List Addr) (a : Addr) (vs : Array Value) (n : Nat) (h : a ∉ al) : Keep al own (a, listOf vs n) := ⟨fun _ => h, rfl, fun h => nomatch h⟩
mutual
theorem VR.mono {own : List Addr} {W W' : Wd} (l : Le own W W') : ∀ {v : V} {x : Value}, VR W v x → VR W' v x
  | _, _, .int => .int
  | _, _, .bool => .bool
  | _, _, .old => .old
  | _, _, .tup h q => .tup (l.k _ h (keep_tup _ _ _ _)) (VRs.mono l q)
  | _, _, .lst h => .lst (l.al _ _ h)
  | _, _, .inst h h' q => .inst (l.k _ h (keep_inst _ _ _ _ _)) (l.k _ h' (keep_dict _ _ _ _ _)) (FRs.mono l q)
  | _, _, .flst h h' q => .flst (l.k _ h (keep_flst _ _ _ _ _ h')) (fun m => (l.an _ m).elim h' fun k => k _ h rfl) (VRs.mono l q)
  | _, _, .rng h => .rng (l.k _ h (keep_rng _ _ _ _ _ _ _ _ _))
theorem VRs.mono {own : List Addr} {W W' : Wd} (l : Le own W W') : ∀ {vs : List V} {xs : List Value}, VRs W vs xs → VRs W' vs xs
  | _, _, .nil => .nil
  | _, _, .cons h q => .cons (VR.mono l h) (VRs.mono l q)
theorem FRs.mono {own : List Addr} {W W' : Wd} (l : Le own W W') : ∀ {fs : List (Str × V)} {es : List DictEntry}, FRs W fs es → FRs W' fs es
  | _, _, .nil => .nil
  | _, _, .cons h q => .cons (VR.mono l h) (FRs.mono l q)
end


structure Sx where
  prog : Program
  w : World
  K : Frag
  p : Program
  loose : List Str
  mg : Str → Option Value
  mb : Str → Option Value
  mg' : Str → Option Value
  bm : Addr
  ob : Obj
  tabs : List (Addr × Pos)
  sa : Addr
  sv : List Value

structure Cx where
  A : Around
  A₀ : Around
  base : Heap
  h₀ : Heap
  outer : List Env
  fenv : Env
  L : Addr
  C : Addr
  fz : Bool
  frz : List (Addr × Obj)
  os : OsState
  gens : Array GenState
  drawn : Drawn
  el : Bool
  mm : Str → Option Value
structure St where
  loc : List (Str × V)
  cv : List (Str × V)
  ls : List (List V)
structure Ok (S : Sx) (c : Cx) (n : Nat) : Prop where
  B : Below c.A₀ c.base c.outer c.h₀
  X : S.K.In c.h₀
  T : TopRead S.p S.loose S.mg S.mb c.h₀
  M : BMod c.base mainGlobals S.mg' S.bm S.ob
  hA : c.A.frames = some (c.fenv :: c.outer)
  hf : c.fenv.frame = some c.L
  hke : c.fenv.scope.kind = .function
  hh : c.A.handled = none
  hd : c.A.depth + n < recursionLimit
  hu : c.A.units + 20 * n < cLine
  hl : c.fenv.locals = c.L
  hg : c.fenv.globals = mainGlobals
  hb : c.fenv.builtins = builtinsNs
  hcd : (c.fenv.cells.map (·.2)).Nodup
  old : c.h₀.IsList S.sa S.sv.toArray
def LocAt (c : Cx) (W : Wd) (m : Str → Option Value) (x : Str) (u : Value) : Prop := match c.fenv.cells.lookup x with
  | none => m x = some u
  | some a => ∃ o, (a, o) ∈ W.news ∧ o.data = .cell (some u)
structure R (S : Sx) (c : Cx) (σ : St) (W : Wd) (m : Str → Option Value) (s : Shared) : Prop where
  F : Fr c.h₀ c.L s.heap m
  N : News c.h₀ c.L s.heap W.news
  loc : ∀ x v, σ.loc.lookup x = some v → ∃ u, VR W v u ∧ LocAt c W m x u
  cel : ∀ x ∈ c.fenv.cells, ∃ o v, (x.2, o) ∈ W.news ∧ o.data = .cell v
  cvz : c.fz = false → c.el = false → σ.cv = []
  cv : ∀ x v, σ.cv.lookup x = some v → ∃ u oC mC, VR W v u ∧ (c.C, oC) ∈ c.frz ∧ NsObj oC mC ∧ mC x = some u
  ls : ∀ (k : Nat) (vs : List V), σ.ls[k]? = some vs → ∃ a xs n, W.al[k]? = some a ∧ (a, listOf xs.toArray n) ∈ W.news ∧ VRs W vs xs
  len : W.al.length = σ.ls.length
  nd : W.al.Nodup
  fz : News c.h₀ c.L s.heap c.frz
  fd : c.fz = false → ∀ q ∈ c.frz, q.1 ∉ W.al ∧ (∀ t ∈ S.tabs, t.1 ≠ q.1) ∧ ∀ x ∈ c.fenv.cells, x.2 ≠ q.1
  fx : c.fz = false → ∀ q ∈ c.frz, ∀ p ∈ W.news, p.1 ≠ q.1
  calm : c.fz = true → s.gens = c.gens ∧ s.drawn = c.drawn
  mfix : c.el = true → m = c.mm
  tabs : c.fz = false → ∀ t ∈ S.tabs, ∃ ps, (t.1, tabO ps) ∈ W.news ∧ TbOk t.2 ps
  gens : c.fz = false → AllBare s.gens
  os : s.os = c.os

structure Gr (c : Cx) (own : List Addr) (W W' : Wd) : Prop where
  le : Le own W W'
  fz : c.fz = true → W'.al = W.al ∧ ∃ new, W'.news = new ++ W.news ∧ ∀ r ∈ new, r.2.cls ≠ .type "list" ∧ ∀ b ∈ c.frz, b.1 < r.1
theorem Gr.refl {c : Cx} {own : List Addr} {W : Wd} : Gr c own W W := ⟨Le.refl _ _, fun _ => ⟨rfl, [], rfl, fun _ h => nomatch h⟩⟩
theorem Gr.trans {c : Cx} {own : List Addr} {W W' W'' : Wd} (x : Gr c own W W') (y : Gr c own W' W'') : Gr c own W W'' := ⟨x.le.trans y.le, fun h => by
  obtain ⟨e1, n1, q1, r1⟩ := x.fz h
  obtain ⟨e2, n2, q2, r2⟩ := y.fz h
  refine ⟨e2.trans e1, n2 ++ n1, by rw [q2, q1, List.append_assoc], fun r hr => ?_⟩
  rcases List.mem_append.mp hr with hr | hr
  · exact r2 r hr
  · exact r1 r hr⟩
theorem Gr.own {c : Cx} {own : List Addr} {W W' : Wd} (x : Gr c [] W W') : Gr c own W W' := ⟨x.le.own, x.fz⟩

def Wp (S : Sx) (c : Cx) (own : List Addr) (σ : St) (W : Wd) {β γ : Type} (t : Sem β) (rel : Wd → γ → β → Prop) (P : γ → St → Prop) : Prop :=
  ∀ (m : Str → Option Value) (s : Shared) (Q : β → Shared → Prop), R S c σ W m s →
    (∀ g b σ' W' m' s', P g σ' → R S c σ' W' m' s' → Gr c own W W' → rel W' g b → Q b s') →
    wpAny (model S.prog S.w) c.A t Q (fun _ _ => False) s
abbrev EvS (S : Sx) (c : Cx) (env : Env) (e : Expr) (σ : St) (P : V → St → Prop) : Prop := ∀ W, Wp S c [] σ W (eval e env) VR P
abbrev EvsS (S : Sx) (c : Cx) (env : Env) (pos : Pos) (es : List Expr) (σ : St) (P : List V → St → Prop) : Prop := ∀ W, Wp S c [] σ W (spliced (backTo pos (starEach es env))) VRs P
abbrev BinS (S : Sx) (c : Cx) (op : Operator) (a b : V) (σ : St) (P : V → St → Prop) : Prop := ∀ W x y, VR W a x → VR W b y → Wp S c [] σ W (binaryOp op x y) VR P
abbrev InpS (S : Sx) (c : Cx) (op : Operator) (a b : V) (σ : St) (P : V → St → Prop) : Prop := ∀ W x y, VR W a x → VR W b y → Wp S c [] σ W (inplaceOp op x y) VR P
abbrev CmpS (S : Sx) (c : Cx) (op : CmpOp) (a b : V) (σ : St) (P : V → St → Prop) : Prop := ∀ W x y, VR W a x → VR W b y → Wp S c [] σ W (compareOp op x y) VR P
abbrev UnS (S : Sx) (c : Cx) (op : UnaryOp) (a : V) (σ : St) (P : V → St → Prop) : Prop := ∀ W x, VR W a x → Wp S c [] σ W (unaryOp op x) VR P
abbrev CallS (S : Sx) (c : Cx) (f : V) (as : List V) (σ : St) (P : V → St → Prop) : Prop := ∀ W x xs, VR W f x → VRs W as xs → Wp S c [] σ W (call x xs) VR P
abbrev GetS (S : Sx) (c : Cx) (o i : V) (σ : St) (P : V → St → Prop) : Prop := ∀ W x y, VR W o x → VR W i y → Wp S c [] σ W (getItem x y) VR P
abbrev TruS (S : Sx) (c : Cx) (a : V) (σ : St) (P : Bool → St → Prop) : Prop := ∀ W x, VR W a x → Wp S c [] σ W (truthy x) (fun _ g b => b = g) P
abbrev TestS (S : Sx) (c : Cx) (env : Env) (e : Expr) (σ : St) (P : Bool → St → Prop) : Prop := ∀ W, Wp S c [] σ W (isTrue e env (eval e env)) (fun _ g b => b = g) P

inductive Fl where
  | next | ret (v : V)
def FlR (W : Wd) : Fl → Flow → Prop
  | .next, f => f = .next
  | .ret v, f => ∃ x, f = .ret x ∧ VR W v x
def ownOf (c : Cx) : List Addr := c.fenv.cells.map (·.2)
abbrev StS (S : Sx) (c : Cx) (st : Stmt) (σ : St) (P : Fl → St → Prop) : Prop := ∀ W, Wp S c (ownOf c) σ W (exec st c.fenv) FlR P
abbrev BlS (S : Sx) (c : Cx) (sts : List Stmt) (σ : St) (P : Fl → St → Prop) : Prop := ∀ W, Wp S c (ownOf c) σ W (execs sts c.fenv) FlR P
section
variable {S : Sx} {c : Cx} {env : Env} {σ : St} {W : Wd} {own : List Addr}
end
end Mine

end

section
set_option maxRecDepth 100000
set_option autoImplicit false
set_option linter.unusedVariables false
namespace Mine
open PySem PySem.W PyProof.Rows PySem.Calls PyProof.Rows.LCg
section
variable {S : Sx} {c : Cx} {env : Env} {σ : St} {W : Wd} {own : List Addr} {m : Str → Option Value} {s : Shared}
theorem LocAt.mono {W' : Wd} {x : Str} {u : Value} (h : LocAt c W m x u) (k : ∀ p ∈ W.news, isCel p.2 = true → p ∈ W'.news) : LocAt c W' m x u := by
  unfold LocAt at h ⊢
  split
  · rename_i e; rw [e] at h; exact h
  · rename_i a e; rw [e] at h; obtain ⟨o, h1, h2⟩ := h; exact ⟨o, k _ h1 (by simp [isCel, h2]), h2⟩
theorem R.tok (r : R S c σ W m s) (t : Nat) : R S c σ W m { s with toks := t } := ⟨r.F, r.N, r.loc, r.cel, r.cvz, r.cv, r.ls, r.len, r.nd, r.fz, r.fd, r.fx, r.calm, r.mfix, r.tabs, r.gens, r.os⟩
theorem R.all (r : R S c σ W m s) : News c.h₀ c.L s.heap (c.frz ++ W.news) := fun p hp => by
  rcases List.mem_append.mp hp with hp | hp
  · exact r.fz p hp
  · exact r.N p hp
theorem R.next {new : List (Addr × Obj)} {h' : Heap} {tk : Nat} (r : R S c σ W m s) (F' : Fr c.h₀ c.L h' m) (N' : News c.h₀ c.L h' (new ++ (c.frz ++ W.news))) (hi : ∀ b ∈ c.frz ++ W.news, ∀ q ∈ new, b.1 < q.1) :
    R S c σ ⟨new ++ W.news, W.al⟩ m { s with heap := h', toks := tk } := by
  have l : Le [] W ⟨new ++ W.news, W.al⟩ := ⟨fun p hp _ => List.mem_append_right _ hp, fun _ _ h => h, fun _ h => .inl h, fun p hp => ⟨p, List.mem_append_right _ hp, rfl⟩⟩
  refine ⟨F', fun p hp => ?_, fun x v e => ?_, fun x e => (let ⟨o, v, h1, h2⟩ := r.cel x e; ⟨o, v, List.mem_append_right _ h1, h2⟩), r.cvz, fun x v e => ?_, fun k vs e => ?_, r.len, r.nd, fun p hp => N' p (List.mem_append_right _ (List.mem_append_left _ hp)), r.fd, fun hz q hq p hp => (List.mem_append.mp hp).elim (fun hp => Nat.ne_of_gt (hi q (List.mem_append_left _ hq) p hp)) (r.fx hz q hq p), r.calm, r.mfix, fun hz t ht => ?_, r.gens, r.os⟩
  · rcases List.mem_append.mp hp with hp | hp
    · exact N' p (List.mem_append_left _ hp)
    · exact N' p (List.mem_append_right _ (List.mem_append_right _ hp))
  · obtain ⟨u, h1, h2⟩ := r.loc x v e; exact ⟨u, h1.mono l, h2.mono fun p hp _ => List.mem_append_right _ hp⟩
  · obtain ⟨u, oC, mC, h1, h2⟩ := r.cv x v e; exact ⟨u, oC, mC, h1.mono l, h2⟩
  · obtain ⟨a, xs, n, h1, h2, h3⟩ := r.ls k vs e; exact ⟨a, xs, n, h1, List.mem_append_right _ h2, h3.mono l⟩
  · obtain ⟨ps, h1, h2⟩ := r.tabs hz t ht; exact ⟨ps, List.mem_append_right _ h1, h2⟩
theorem Gr.next {new : List (Addr × Obj)} (hi : ∀ b ∈ c.frz ++ W.news, ∀ q ∈ new, b.1 < q.1) (hc : ∀ q ∈ new, q.2.cls ≠ .type "list") : Gr c [] W ⟨new ++ W.news, W.al⟩ :=
  ⟨⟨fun p hp _ => List.mem_append_right _ hp, fun _ _ h => h, fun _ h => .inl h, fun p hp => ⟨p, List.mem_append_right _ hp, rfl⟩⟩, fun _ => ⟨rfl, new, rfl, fun q hq => ⟨hc q hq, fun b hb => hi b (List.mem_append_left _ hb) q hq⟩⟩⟩

theorem R.newList {h' : Heap} {tk : Nat} {a : Addr} {xs : List Value} {vs : List V} {n : Nat} (r : R S c σ W m s) (hfz : c.fz = false) (F' : Fr c.h₀ c.L h' m) (N' : News c.h₀ c.L h' ((a, listOf xs.toArray n) :: (c.frz ++ W.news))) (hi : ∀ b ∈ c.frz ++ W.news, b.1 ≠ a) (hv : VRs W vs xs) :
    R S c { σ with ls := σ.ls ++ [vs] } ⟨(a, listOf xs.toArray n) :: W.news, W.al ++ [a]⟩ m { s with heap := h', toks := tk } ∧ Gr c [] W ⟨(a, listOf xs.toArray n) :: W.news, W.al ++ [a]⟩ := by
  have l : Le [] W ⟨(a, listOf xs.toArray n) :: W.news, W.al ++ [a]⟩ := ⟨fun p hp _ => .tail _ hp, fun i b h => by
    rw [List.getElem?_append_left (List.getElem?_eq_some_iff.mp h).1]; exact h, fun b hb => (List.mem_append.mp hb).imp id fun h p hp => by
      rw [List.mem_singleton.mp h]; exact hi p (List.mem_append_right _ hp), fun p hp => ⟨p, .tail _ hp, rfl⟩⟩
  refine ⟨⟨F', fun p hp => ?_, fun x v e => ?_, fun x e => (let ⟨o, v, h1, h2⟩ := r.cel x e; ⟨o, v, .tail _ h1, h2⟩), r.cvz, fun x v e => ?_, fun k ws e => ?_, by simp [r.len], ?_, fun p hp => N' p (.tail _ (List.mem_append_left _ hp)), fun hz q hq => ?_, fun hz q hq p hp => (List.mem_cons.mp hp).elim (fun e => by rw [e]; exact (hi q (List.mem_append_left _ hq)).symm) (r.fx hz q hq p), r.calm, r.mfix, fun hz t ht => ?_, r.gens, r.os⟩, l, fun h => by rw [hfz] at h; cases h⟩
  · rcases List.mem_cons.mp hp with rfl | hp
    · exact N' _ (.head _)
    · exact N' p (.tail _ (List.mem_append_right _ hp))
  · obtain ⟨u, h1, h2⟩ := r.loc x v e; exact ⟨u, h1.mono l, h2.mono fun p hp _ => .tail _ hp⟩
  · obtain ⟨u, oC, mC, h1, h2⟩ := r.cv x v e; exact ⟨u, oC, mC, h1.mono l, h2⟩
  · by_cases hk : k < σ.ls.length
    · rw [List.getElem?_append_left hk] at e
      obtain ⟨b, ys, n', h1, h2, h3⟩ := r.ls k ws e
      exact ⟨b, ys, n', l.al _ _ h1, .tail _ h2, h3.mono l⟩
    · have hk' : k = σ.ls.length := by
        have := (List.getElem?_eq_some_iff.mp e).1
        simp at this; omega
      subst hk'
      have e' : vs = ws := by simpa using e
      subst e'
      exact ⟨a, xs, n, by rw [← r.len]; simp, .head _, hv.mono l⟩
  · refine List.nodup_append.mpr ⟨r.nd, by simp, fun x hx y hy => ?_⟩
    obtain ⟨i, hi', rfl⟩ := List.getElem_of_mem hx
    have e : W.al[i]? = some W.al[i] := List.getElem?_eq_getElem hi'
    have hl : i < σ.ls.length := by rw [← r.len]; exact hi'
    obtain ⟨b, ys, n', h1, h2, _⟩ := r.ls i _ (List.getElem?_eq_getElem hl)
    rw [e] at h1; cases h1
    rw [List.mem_singleton.mp hy]
    exact hi _ (List.mem_append_right _ h2)
  · obtain ⟨f1, f2⟩ := r.fd hz q hq
    refine ⟨fun m => ?_, f2⟩
    rcases List.mem_append.mp m with m | m
    · exact f1 m
    · exact absurd (List.mem_singleton.mp m) (hi q (List.mem_append_left _ hq))
  · obtain ⟨ps, h1, h2⟩ := r.tabs hz t ht; exact ⟨ps, .tail _ h1, h2⟩
def upd (a : Addr) (o : Obj) (l : List (Addr × Obj)) : List (Addr × Obj) := l.map fun p => if p.1 = a then (a, o) else p
theorem upd_mem {a : Addr} {o : Obj} {l : List (Addr × Obj)} {p : Addr × Obj} (h : p ∈ l) (hn : p.1 ≠ a) : p ∈ upd a o l := List.mem_map.mpr ⟨p, h, if_neg hn⟩
theorem updW_self {a : Addr} {o o' : Obj} {l : List (Addr × Obj)} (h : (a, o') ∈ l) : (a, o) ∈ upd a o l := List.mem_map.mpr ⟨_, h, if_pos rfl⟩
theorem upd_ne {a b : Addr} {o : Obj} {p p' : Addr × Obj} (e : (if p'.1 = a then (a, o) else p') = p) (h : p'.1 ≠ b) : p.1 ≠ b := by
  split at e
  · rename_i z; rw [← e]; exact z ▸ h
  · rw [← e]; exact h

theorem R.update {h' : Heap} {tk : Nat} {a : Addr} {k : Nat} {xs xs' : List Value} {vs' : List V} {n n' : Nat} (r : R S c σ W m s) (hz : c.fz = false) (ha : W.al[k]? = some a) (hm : (a, listOf xs.toArray n) ∈ W.news) (hs : Heap.SameBut a s.heap h')
    (ho : h'.get? a = some (listOf xs'.toArray n')) (hv : VRs W vs' xs') :
    R S c { σ with ls := σ.ls.set k vs' } ⟨upd a (listOf xs'.toArray n') W.news, W.al⟩ m { s with heap := h', toks := tk } ∧ Gr c [] W ⟨upd a (listOf xs'.toArray n') W.news, W.al⟩ := by
  have z := r.N _ hm
  have cons : ∀ p ∈ W.news, p.1 = a → p.2 = listOf xs.toArray n := fun p hp e => by
    have := (r.N p hp).1
    rw [e, z.1] at this; exact (Option.some.inj this).symm
  have hal : a ∈ W.al := List.mem_of_getElem? ha
  have l : Le [] W ⟨upd a (listOf xs'.toArray n') W.news, W.al⟩ := ⟨fun p hp hk => upd_mem hp fun e => by
    have := cons p hp e
    exact hk.l (by rw [this]; exact beq_self_eq_true _) (e ▸ hal), fun _ _ h => h, fun _ h => .inl h, fun p hp => by
    by_cases e : p.1 = a
    · exact ⟨_, updW_self (o' := p.2) (by rw [← e]; exact hp), e.symm⟩
    · exact ⟨p, upd_mem hp e, rfl⟩⟩
  refine ⟨⟨r.F.change hs z.2.1 z.2.2, fun p hp => ?_, fun x v e => ?_, fun x e => (let ⟨o, v, h1, h2⟩ := r.cel x e; ⟨o, v, upd_mem h1 fun q => (by have := cons _ h1 q; simp only at this; rw [this] at h2; cases h2), h2⟩), r.cvz, fun x v e => ?_, fun j ws e => ?_, by simp [r.len], r.nd, fun p hp => ?_, r.fd, fun hz q hq p hp => (let ⟨p', hp', e'⟩ := List.mem_map.mp hp; upd_ne e' (r.fx hz q hq p' hp')), fun h => (by rw [hz] at h; cases h), r.mfix, fun hz t ht => ?_, r.gens, r.os⟩, l, fun h => (by rw [hz] at h; cases h)⟩
  · obtain ⟨q, hq, rfl⟩ := List.mem_map.mp hp
    split
    · rename_i e; exact ⟨ho, z.2⟩
    · rename_i e; exact ⟨(hs.2 _ e).trans (r.N q hq).1, (r.N q hq).2⟩
  · obtain ⟨u, h1, h2⟩ := r.loc x v e
    exact ⟨u, h1.mono l, h2.mono fun p hp hc => upd_mem hp fun e => by rw [cons p hp e] at hc; exact Bool.noConfusion (show false = true from hc)⟩
  · obtain ⟨u, oC, mC, h1, h2, h3⟩ := r.cv x v e; exact ⟨u, oC, mC, h1.mono l, h2, h3⟩
  · by_cases hj : k = j
    · subst hj
      have hk : k < σ.ls.length := by have := (List.getElem?_eq_some_iff.mp e).1; simpa using this
      rw [List.getElem?_set_self hk] at e
      cases e
      exact ⟨a, xs', n', ha, updW_self hm, hv.mono l⟩
    · rw [List.getElem?_set_ne hj] at e
      obtain ⟨b, ys, n₂, h1, h2, h3⟩ := r.ls j ws e
      refine ⟨b, ys, n₂, h1, upd_mem h2 fun q => ?_, h3.mono l⟩
      have q' : b = a := q
      subst q'
      have i1 := (List.getElem?_eq_some_iff.mp ha).1
      have i2 := (List.getElem?_eq_some_iff.mp h1).1
      exact hj ((List.getElem?_inj i1 r.nd).mp (ha.trans h1.symm))
  · have q := r.fz p hp
    exact ⟨(hs.2 _ fun e => (r.fd hz p hp).1 (by rw [e]; exact hal)).trans q.1, q.2⟩
  · obtain ⟨ps, h1, h2⟩ := r.tabs hz t ht
    refine ⟨ps, upd_mem h1 fun q => ?_, h2⟩
    have := cons _ h1 q
    exact absurd (congrArg Obj.cls this) (by show Value.none ≠ Value.type "list"; exact fun h => nomatch h)
end
end Mine

end

section
set_option maxRecDepth 100000
set_option autoImplicit false
set_option linter.unusedVariables false
namespace Mine
open PySem PySem.W PyProof.Rows PySem.Calls PyProof.Rows.LCg

def NewK (σ : St) (vs : List V) (P : V → St → Prop) : Prop := P (.lst σ.ls.length) { σ with ls := σ.ls ++ [vs] }
def SetK (σ : St) (k : Nat) (vs : List V) (P : St → Prop) : Prop := P { σ with ls := σ.ls.set k vs }
section
variable {S : Sx} {c : Cx} {env : Env} {σ : St} {n : Nat}
theorem ev_int {i : Int} {k : Nat} {pos : Pos} {P : V → St → Prop} (h : P (.int i) σ) : EvS S c env (.Constant (.int i) k pos) σ P :=
  fun W _ _ _ r q => wpAny_Constant_int (q _ _ σ W _ _ h (r.tok _) .refl .int)
theorem ev_bool {b : Bool} {k : Nat} {pos : Pos} {P : V → St → Prop} (h : P (.bool b) σ) : EvS S c env (.Constant (.bool b) k pos) σ P :=
  fun W _ _ _ r q => wpAny_Constant_bool (q _ _ σ W _ _ h r .refl .bool)
theorem ev_loc (O : Ok S c n) {x : Str} {pos : Pos} {v : V} {P : V → St → Prop} {E : Env} (hE : c.fenv = E) (hk : E.kindOf x = some .local) (hc : E.cells.lookup x = none) (hv : σ.loc.lookup x = some v) (hd : (x == ("__debug__" : Str)) = false) (h : P v σ) :
    EvS S c c.fenv (.Name x pos) σ P := fun W m s Q r q => by
  obtain ⟨u, h1, h2⟩ := r.loc x v hv
  subst hE
  unfold LocAt at h2; rw [hc] at h2
  exact wpAny_Name (wpAny_loadName_local O.hke hk (by rw [O.hl]; exact r.F.ns) h2 (q _ _ σ W _ _ h r .refl h1)) hd
theorem ev_cel (O : Ok S c n) {x : Str} {pos : Pos} {v : V} {a : Addr} {P : V → St → Prop} {E : Env} (hE : c.fenv = E) (hk : E.kindOf x = some .cell) (hc : E.cells.lookup x = some a) (hv : σ.loc.lookup x = some v) (hd : (x == ("__debug__" : Str)) = false) (h : P v σ) :
    EvS S c c.fenv (.Name x pos) σ P := fun W m s Q r q => by
  obtain ⟨u, h1, h2⟩ := r.loc x v hv
  subst hE
  unfold LocAt at h2; rw [hc] at h2
  obtain ⟨o, h3, h4⟩ := h2
  exact wpAny_Name (wpAny_loadName_cell O.hke hk hc ⟨o, r.N.get h3, h4⟩ (q _ _ σ W _ _ h r .refl h1)) hd
theorem ev_glob (O : Ok S c n) {x : Str} {pos : Pos} {v : Value} {P : V → St → Prop} {E : Env} (hE : c.fenv = E) (hk : E.kindOf x = some .globalImplicit) (e : nsIn S.K mainGlobals x = some (some v)) (hd : (x == ("__debug__" : Str)) = false) (h : P (.old v) σ) :
    EvS S c c.fenv (.Name x pos) σ P := fun W m s Q r q => by
  subst hE
  exact Name_function_global O.hke hk (loadGlobal_global (by rw [O.hg]; exact O.T.g.keeps r.F.keep) (mg_of O.X O.T.g e) (q _ _ σ W _ _ h r .refl .old)) hd
theorem ev_blt (O : Ok S c n) {x : Str} {pos : Pos} {v : Value} {P : V → St → Prop} {E : Env} (hE : c.fenv = E) (hk : E.kindOf x = some .globalImplicit) (e : nsIn S.K mainGlobals x = some none) (hv : bootBuiltins x = some v) (hn : x ≠ "__name__") (hd : (x == ("__debug__" : Str)) = false) (h : P (.old v) σ) :
    EvS S c c.fenv (.Name x pos) σ P := fun W m s Q r q => by
  subst hE
  exact Name_function_global O.hke hk (loadGlobal_builtin (by rw [O.hg]; exact O.T.g.keeps r.F.keep) (mg_none_of O.X O.T.g e) (by rw [O.hb]; exact O.T.b.keeps r.F.keep) ((O.T.builtins x hn).trans hv) (q _ _ σ W _ _ h r .refl .old)) hd
theorem cev_loc {sc : Scope} {cl : List (Str × Addr)} {x : Str} {pos : Pos} {v : V} {P : V → St → Prop} {E : Env} (hE : c.fenv = E) (hks : sc.kind = .function) (hk : (compEnvC sc cl c.C E).kindOf x = some .local) (hv : σ.cv.lookup x = some v) (hd : (x == ("__debug__" : Str)) = false) (h : P v σ) :
    EvS S c (compEnvC sc cl c.C c.fenv) (.Name x pos) σ P := fun W m s Q r q => by
  obtain ⟨u, oC, mC, h1, h2, h3, h4⟩ := r.cv x v hv
  subst hE
  exact wpAny_Name (wpAny_loadName_local hks hk (h3.ns (r.fz _ h2).1) h4 (q _ _ σ W _ _ h r .refl h1)) hd
theorem cev_cel {sc : Scope} {cl : List (Str × Addr)} {x : Str} {pos : Pos} {v : V} {a : Addr} {P : V → St → Prop} {E : Env} (hE : c.fenv = E) (hks : sc.kind = .function) (hk : (compEnvC sc cl c.C E).kindOf x = some .cell) (hc : cl.lookup x = some a) (hc' : E.cells.lookup x = some a) (hv : σ.loc.lookup x = some v) (hd : (x == ("__debug__" : Str)) = false) (h : P v σ) :
    EvS S c (compEnvC sc cl c.C c.fenv) (.Name x pos) σ P := fun W m s Q r q => by
  obtain ⟨u, h1, h2⟩ := r.loc x v hv
  subst hE
  unfold LocAt at h2; rw [hc'] at h2
  obtain ⟨o, h3, h4⟩ := h2
  exact wpAny_Name (wpAny_loadName_cell hks hk hc ⟨o, r.N.get h3, h4⟩ (q _ _ σ W _ _ h r .refl h1)) hd
theorem cev_glob (O : Ok S c n) {sc : Scope} {cl : List (Str × Addr)} {x : Str} {pos : Pos} {v : Value} {P : V → St → Prop} {E : Env} (hE : c.fenv = E) (hks : sc.kind = .function) (hk : (compEnvC sc cl c.C E).kindOf x = some .globalImplicit) (e : nsIn S.K mainGlobals x = some (some v)) (hd : (x == ("__debug__" : Str)) = false) (h : P (.old v) σ) :
    EvS S c (compEnvC sc cl c.C c.fenv) (.Name x pos) σ P := fun W m s Q r q => by
  subst hE
  exact Name_function_global hks hk (loadGlobal_global (show s.heap.Ns c.fenv.globals S.mg by rw [O.hg]; exact O.T.g.keeps r.F.keep) (mg_of O.X O.T.g e) (q _ _ σ W _ _ h r .refl .old)) hd
theorem cev_blt (O : Ok S c n) {sc : Scope} {cl : List (Str × Addr)} {x : Str} {pos : Pos} {v : Value} {P : V → St → Prop} {E : Env} (hE : c.fenv = E) (hks : sc.kind = .function) (hk : (compEnvC sc cl c.C E).kindOf x = some .globalImplicit) (e : nsIn S.K mainGlobals x = some none) (hv : bootBuiltins x = some v) (hn : x ≠ "__name__") (hd : (x == ("__debug__" : Str)) = false) (h : P (.old v) σ) :
    EvS S c (compEnvC sc cl c.C c.fenv) (.Name x pos) σ P := fun W m s Q r q => by
  subst hE
  exact Name_function_global hks hk (loadGlobal_builtin (show s.heap.Ns c.fenv.globals S.mg by rw [O.hg]; exact O.T.g.keeps r.F.keep) (mg_none_of O.X O.T.g e) (show s.heap.Ns c.fenv.builtins S.mb by rw [O.hb]; exact O.T.b.keeps r.F.keep) ((O.T.builtins x hn).trans hv) (q _ _ σ W _ _ h r .refl .old)) hd
theorem ev_bin {l r : Expr} {op : Operator} {pos : Pos} {P : V → St → Prop} (h : EvS S c env l σ fun a σ₁ => EvS S c env r σ₁ fun b σ₂ => BinS S c op a b σ₂ P) : EvS S c env (.BinOp l op r pos) σ P := fun W m s Q r' q => by
  refine wpAny_BinOp (h W m s _ r' fun a x σ₁ W₁ m₁ s₁ h₁ r₁ l₁ e₁ => h₁ W₁ m₁ s₁ _ r₁ fun b y σ₂ W₂ m₂ s₂ h₂ r₂ l₂ e₂ => ?_)
  exact h₂ W₂ x y (e₁.mono l₂.le) e₂ m₂ s₂ _ r₂ fun g b' σ' W' m' s' p r3 l3 e => q g b' σ' W' m' s' p r3 ((l₁.trans l₂).trans l3) e
theorem ev_un {x : Expr} {op : UnaryOp} {pos : Pos} {P : V → St → Prop} (h : EvS S c env x σ fun a σ₁ => UnS S c op a σ₁ P) : EvS S c env (.UnaryOp op x pos) σ P := fun W m s Q r' q => by
  refine wpAny_UnaryOp (h W m s _ r' fun a x σ₁ W₁ m₁ s₁ h₁ r₁ l₁ e₁ => ?_)
  exact h₁ W₁ x e₁ m₁ s₁ _ r₁ fun g b' σ' W' m' s' p r3 l3 e => q g b' σ' W' m' s' p r3 (l₁.trans l3) e
theorem ev_cmp {l r : Expr} {op : CmpOp} {pos : Pos} {P : V → St → Prop} (hm : behindInMarks op r = false) (h : EvS S c env l σ fun a σ₁ => EvS S c env r σ₁ fun b σ₂ => CmpS S c op a b σ₂ P) : EvS S c env (.Compare l [op] [r] pos) σ P := fun W m s Q r' q => by
  refine wpAny_Compare1 (h W m s _ r' fun a x σ₁ W₁ m₁ s₁ h₁ r₁ l₁ e₁ => h₁ W₁ m₁ s₁ _ r₁ fun b y σ₂ W₂ m₂ s₂ h₂ r₂ l₂ e₂ => ?_) hm
  exact h₂ W₂ x y (e₁.mono l₂.le) e₂ m₂ s₂ _ r₂ fun g b' σ' W' m' s' p r3 l3 e => q g b' σ' W' m' s' p r3 ((l₁.trans l₂).trans l3) e
theorem ts_cmp {l r : Expr} {op : CmpOp} {pos : Pos} {P : Bool → St → Prop} (hm : behindInMarks op r = false) (h : EvS S c env l σ fun a σ₁ => EvS S c env r σ₁ fun b σ₂ => CmpS S c op a b σ₂ fun v σ₃ => TruS S c v σ₃ P) : TestS S c env (.Compare l [op] [r] pos) σ P := fun W m s Q r' q => by
  refine wpAny_isTrue_Compare1 (h W m s _ r' fun a x σ₁ W₁ m₁ s₁ h₁ r₁ l₁ e₁ => h₁ W₁ m₁ s₁ _ r₁ fun b y σ₂ W₂ m₂ s₂ h₂ r₂ l₂ e₂ => ?_) hm
  exact h₂ W₂ x y (e₁.mono l₂.le) e₂ m₂ s₂ _ r₂ fun v z σ₃ W₃ m₃ s₃ h₃ r₃ l₃ e₃ => h₃ W₃ z e₃ m₃ s₃ _ r₃ fun g b' σ' W' m' s' p r4 l4 e => q g b' σ' W' m' s' p r4 (((l₁.trans l₂).trans l₃).trans l4) e
theorem ts_val {e : Expr} {P : Bool → St → Prop} (h : EvS S c env e σ fun v σ₁ => TruS S c v σ₁ P) (he : ∀ whole, isTrue e env whole = (do let v ← whole; standAt e.pos; holding [v] (truthy v))) : TestS S c env e σ P := fun W m s Q r' q => by
  refine wpAny_isTrue_value (h W m s _ r' fun a x σ₁ W₁ m₁ s₁ h₁ r₁ l₁ e₁ => ?_) (he _)
  exact h₁ W₁ x e₁ m₁ s₁ _ r₁ fun g b' σ' W' m' s' p r3 l3 e => q g b' σ' W' m' s' p r3 (l₁.trans l3) e
theorem ts_not {x : Expr} {pos : Pos} {P : Bool → St → Prop} (h : TestS S c env x σ fun b σ₁ => P (!b) σ₁) : TestS S c env (.UnaryOp .Not x pos) σ P := fun W m s Q r' q =>
  wpAny_isTrue_Not (h W m s _ r' fun a x σ₁ W₁ m₁ s₁ h₁ r₁ l₁ e₁ => q _ _ σ₁ W₁ m₁ s₁ h₁ r₁ l₁ (congrArg _ e₁))
abbrev AllTS (S : Sx) (c : Cx) (env : Env) (op : BoolOp) (es : List Expr) (σ : St) (P : Bool → St → Prop) : Prop := ∀ W, Wp S c [] σ W (allTrue op es env) (fun _ g b => b = g) P
theorem ts_bool {op : BoolOp} {es : List Expr} {pos : Pos} {P : Bool → St → Prop} (h : AllTS S c env op es σ P) : TestS S c env (.BoolOp op es pos) σ P := fun W m s Q r' q => wpAny_isTrue_BoolOp (h W m s _ r' q)
theorem at_and_nil {P : Bool → St → Prop} (h : P true σ) : AllTS S c env .And [] σ P := fun W m s Q r' q => wpAny_allTrue_And_nil (q true true σ W m s h r' .refl rfl)
theorem at_and {x : Expr} {rest : List Expr} {P : Bool → St → Prop} (h : TestS S c env x σ fun b σ₁ => if b = true then AllTS S c env .And rest σ₁ P else P false σ₁) : AllTS S c env .And (x :: rest) σ P := fun W m s Q r' q => by
  refine wpAny_allTrue_And_cons (h W m s _ r' fun b b' σ₁ W₁ m₁ s₁ h₁ r₁ l₁ e₁ => ?_)
  subst e₁
  cases b'
  · exact q false false σ₁ W₁ m₁ s₁ h₁ r₁ l₁ rfl
  · exact h₁ W₁ m₁ s₁ _ r₁ fun g b' σ' W' m' s' p r3 l3 e => q g b' σ' W' m' s' p r3 (l₁.trans l3) e
theorem ev_and {x y : Expr} {pos : Pos} {P : V → St → Prop} (h : EvS S c env x σ fun v σ₁ => TruS S c v σ₁ fun b σ₂ => if b = true then EvS S c env y σ₂ P else P v σ₂) : EvS S c env (.BoolOp .And [x, y] pos) σ P := fun W m s Q r' q => by
  refine wpAny_And2 (h W m s _ r' fun v u σ₁ W₁ m₁ s₁ h₁ r₁ l₁ e₁ => h₁ W₁ u e₁ m₁ s₁ _ r₁ fun b b' σ₂ W₂ m₂ s₂ h₂ r₂ l₂ e₂ => ?_)
  subst e₂
  cases b'
  · exact q v u σ₂ W₂ m₂ s₂ h₂ r₂ (l₁.trans l₂) (e₁.mono l₂.le)
  · exact h₂ W₂ m₂ s₂ _ r₂ fun g b' σ' W' m' s' p r3 l3 e => q g b' σ' W' m' s' p r3 ((l₁.trans l₂).trans l3) e
theorem ev_if {t x y : Expr} {pos : Pos} {P : V → St → Prop} (h : TestS S c env t σ fun b σ₁ => if b = true then EvS S c env x σ₁ P else EvS S c env y σ₁ P) : EvS S c env (.IfExp t x y pos) σ P := fun W m s Q r' q => by
  refine wpAny_IfExp (h W m s _ r' fun b b' σ₁ W₁ m₁ s₁ h₁ r₁ l₁ e₁ => ?_)
  subst e₁
  cases b' <;> exact h₁ W₁ m₁ s₁ _ r₁ fun g b' σ' W' m' s' p r3 l3 e => q g b' σ' W' m' s' p r3 (l₁.trans l3) e
theorem evs_nil {pos : Pos} {P : List V → St → Prop} (h : P [] σ) : EvsS S c env pos [] σ P := fun W m s Q r' q => wpAny_items_nil (q [] [] σ W m s h r' .refl .nil)
theorem evs_cons {pos : Pos} {e : Expr} {rest : List Expr} {P : List V → St → Prop} (he : starEach (e :: rest) env = (false, eval e env) :: starEach rest env) (h : EvS S c env e σ fun v σ₁ => EvsS S c env pos rest σ₁ fun vs σ₂ => P (v :: vs) σ₂) : EvsS S c env pos (e :: rest) σ P := fun W m s Q r' q => by
  refine wpAny_items_cons (h W m s _ r' fun v u σ₁ W₁ m₁ s₁ h₁ r₁ l₁ e₁ => h₁ W₁ m₁ s₁ _ r₁ fun vs us σ₂ W₂ m₂ s₂ h₂ r₂ l₂ e₂ => ?_) he
  exact q _ _ σ₂ W₂ m₂ s₂ h₂ r₂ (l₁.trans l₂) (.cons (e₁.mono l₂.le) e₂)
theorem VRs.length {W : Wd} : ∀ {vs : List V} {xs : List Value}, VRs W vs xs → xs.length = vs.length
  | _, _, .nil => rfl
  | _, _, .cons _ q => by simp [VRs.length q]
theorem tup_cls {a : Array Value} : (tupO a).cls ≠ .type "list" := fun h => absurd (Value.type.inj h) (by decide)
theorem R.tupleNew {W : Wd} {m : Str → Option Value} {s : Shared} {vs : List V} {xs : List Value} {Q : Value → Shared → Prop} {own : List Addr} {E : Value → Shared → Prop} {A : Around} (r : R S c σ W m s) (e : VRs W vs xs) (hz : vs.length ≤ 1000)
    (q : ∀ u W' m' s', R S c σ W' m' s' → Gr c own W W' → VR W' (.tup vs) u → Q u s') : wpAny (model S.prog S.w) A (newTuple xs) Q E s := by
  have hl := e.length
  have r0 := r
  refine newTuple_N r.F r.all (fun h' F' N' => ?_) (by rw [hl, sizeLine_eq]; omega)
  have hi : ∀ b ∈ c.frz ++ W.news, ∀ p ∈ [((s.heap.objs.size : Addr), (tupO xs.toArray))], b.1 < p.1 := fun b hb p hp => by
    rw [List.mem_singleton.mp hp]; exact Heap.lt_size (r.all b hb).1
  have g := Gr.next (c := c) (W := W) (new := [((s.heap.objs.size : Addr), (tupO xs.toArray))]) hi (fun p hp => by rw [List.mem_singleton.mp hp]; exact tup_cls)
  exact q _ _ _ _ (r.next (tk := s.toks) (new := [(s.heap.objs.size, tupO xs.toArray)]) F' N' hi) g.own (.tup (.head _) (e.mono g.le))
theorem ev_tuple {es : List Expr} {k : Nat} {pos : Pos} {P : V → St → Prop} (h : EvsS S c env pos es σ fun vs σ₁ => vs.length ≤ 1000 ∧ P (.tup vs) σ₁) : EvS S c env (.Tuple es k pos) σ P := fun W m s Q r' q =>
  Tuple_ (h W m s _ r' fun _ _ σ₁ _ _ _ h₁ r₁ l₁ e₁ => r₁.tupleNew e₁ h₁.1 fun u W' m' s' r2 l2 e2 => q _ u σ₁ W' m' s' h₁.2 r2 (l₁.trans l2) e2)
theorem R.listNew (O : Ok S c n) {W : Wd} {m : Str → Option Value} {s : Shared} {vs : List V} {xs : List Value} {Q : Value → Shared → Prop} {E : Value → Shared → Prop} {A : Around} (hfz : c.fz = false) (r : R S c σ W m s) (e : VRs W vs xs) (hz : vs.length ≤ 1000)
    (q : ∀ u W' m' s', R S c { σ with ls := σ.ls ++ [vs] } W' m' s' → Gr c [] W W' → VR W' (.lst σ.ls.length) u → Q u s') : wpAny (model S.prog S.w) A (PySem.newList xs) Q E s := by
  have hl := e.length
  refine newList_N r.F r.all (fun h' F' N' => ?_) (by rw [hl, sizeLine_eq]; omega)
  obtain ⟨r2, g⟩ := r.newList (tk := s.toks) hfz F' N' (fun b hb => Nat.ne_of_lt (Heap.lt_size (r.all b hb).1)) e
  exact q _ _ _ _ r2 g (.lst (by rw [← r.len]; simp))
theorem ev_list (O : Ok S c n) {es : List Expr} {pos : Pos} {P : V → St → Prop} (hfz : c.fz = false) (h : EvsS S c env pos es σ fun vs σ₁ => vs.length ≤ 1000 ∧ NewK σ₁ vs P) : EvS S c env (.List es pos) σ P := fun W m s Q r' q =>
  List_ (h W m s _ r' fun _ _ _ _ _ _ h₁ r₁ l₁ e₁ => r₁.listNew O hfz e₁ h₁.1 fun u W' m' s' r2 l2 e2 => q _ u _ W' m' s' h₁.2 r2 (l₁.trans l2) e2)
theorem bin_add {a b : Int} {P : V → St → Prop} (h : P (.int (a + b)) σ) : BinS S c .Add (.int a) (.int b) σ P := fun W x y hx hy m s Q r q => by
  cases hx; cases hy; exact PyProof.Rows.add_int (q _ _ σ W _ _ h (r.tok _) .refl .int)
theorem bin_sub {a b : Int} {P : V → St → Prop} (h : P (.int (a - b)) σ) : BinS S c .Sub (.int a) (.int b) σ P := fun W x y hx hy m s Q r q => by
  cases hx; cases hy; exact PyProof.Rows.sub_int (q _ _ σ W _ _ h (r.tok _) .refl .int)
theorem bin_mul {a b : Int} {P : V → St → Prop} (hm : IntMulOk a b) (h : P (.int (a * b)) σ) : BinS S c .Mult (.int a) (.int b) σ P := fun W x y hx hy m s Q r q => by
  cases hx; cases hy; exact PySem.P.mul_int (q _ _ σ W _ _ h (r.tok _) .refl .int) hm
theorem bin_mod {a b : Int} {P : V → St → Prop} (hb : b ≠ 0) (h : P (.int (a.fmod b)) σ) : BinS S c .Mod (.int a) (.int b) σ P := fun W x y hx hy m s Q r q => by
  cases hx; cases hy; exact mod_int' hb (q _ _ σ W _ _ h (r.tok _) .refl .int)
theorem inp_add {a b : Int} {P : V → St → Prop} (h : P (.int (a + b)) σ) : InpS S c .Add (.int a) (.int b) σ P := fun W x y hx hy m s Q r q => by
  cases hx; cases hy; exact PySem.P.iadd_int (q _ _ σ W _ _ h (r.tok _) .refl .int)
theorem inp_sub {a b : Int} {P : V → St → Prop} (h : P (.int (a - b)) σ) : InpS S c .Sub (.int a) (.int b) σ P := fun W x y hx hy m s Q r q => by
  cases hx; cases hy; exact PySem.P.isub_int (q _ _ σ W _ _ h (r.tok _) .refl .int)
theorem cmp_eq {a b : Int} {P : V → St → Prop} (h : P (.bool (a == b)) σ) : CmpS S c .Eq (.int a) (.int b) σ P := fun W x y hx hy m s Q r q => by
  cases hx; cases hy; exact PySem.P.eq_int (q _ _ σ W _ _ h r .refl .bool)
theorem cmp_ne {a b : Int} {P : V → St → Prop} (h : P (.bool (a != b)) σ) : CmpS S c .NotEq (.int a) (.int b) σ P := fun W x y hx hy m s Q r q => by
  cases hx; cases hy; exact PySem.P.ne_int (q _ _ σ W _ _ h r .refl .bool)
theorem cmp_lt {a b : Int} {P : V → St → Prop} (h : P (.bool (decide (a < b))) σ) : CmpS S c .Lt (.int a) (.int b) σ P := fun W x y hx hy m s Q r q => by
  cases hx; cases hy; exact PySem.P.lt_int (q _ _ σ W _ _ h r .refl .bool)
theorem cmp_gt {a b : Int} {P : V → St → Prop} (h : P (.bool (decide (b < a))) σ) : CmpS S c .Gt (.int a) (.int b) σ P := fun W x y hx hy m s Q r q => by
  cases hx; cases hy; exact PySem.P.gt_int (q _ _ σ W _ _ h r .refl .bool)
theorem un_neg {a : Int} {P : V → St → Prop} (h : P (.int (-a)) σ) : UnS S c .USub (.int a) σ P := fun W x hx m s Q r q => by
  cases hx; exact PySem.P.neg_int (q _ _ σ W _ _ h (r.tok _) .refl .int)
theorem tr_int {a : Int} {P : Bool → St → Prop} (h : P (a != 0) σ) : TruS S c (.int a) σ P := fun W x hx m s Q r q => by
  cases hx; exact PySem.P.truthy_int (q _ _ σ W _ _ h r .refl rfl)
theorem tr_bool {a : Bool} {P : Bool → St → Prop} (h : P a σ) : TruS S c (.bool a) σ P := fun W x hx m s Q r q => by
  cases hx; exact wpAny_truthy_bool (q _ _ σ W _ _ h r .refl rfl)
end
end Mine

end

section
set_option maxRecDepth 100000
set_option autoImplicit false
set_option linter.unusedVariables false
namespace Mine
open PySem PySem.W PyProof.Rows PySem.Calls PyProof.Rows.LCg
section
variable {S : Sx} {c : Cx} {env : Env} {σ : St} {n : Nat}
abbrev AttS (S : Sx) (c : Cx) (a : V) (name : Str) (σ : St) (P : V → St → Prop) : Prop := ∀ W x, VR W a x → Wp S c [] σ W (getAttr x name true) VR P
theorem ev_attr {o : Expr} {name : Str} {pos : Pos} {P : V → St → Prop} (he : eval (.Attribute o name pos) env = (do
      let ov ← eval o env
      standAt pos.atName
      let r ← holding [ov] (getAttr ov name true)
      letTemporaryGo o ov r
      pure r)) (h : EvS S c env o σ fun v σ₁ => AttS S c v name σ₁ P) : EvS S c env (.Attribute o name pos) σ P := fun W m s Q r q => by
  refine Attribute_any_ (h W m s _ r fun v u σ₁ W₁ m₁ s₁ h₁ r₁ l₁ e₁ => ?_) he
  exact h₁ W₁ u e₁ m₁ s₁ _ r₁ fun g b' σ' W' m' s' p r3 l3 e => q g b' σ' W' m' s' p r3 (l₁.trans l3) e
def notOld : V → Bool
  | .old _ => false
  | _ => true
theorem VR.handed {W : Wd} {v : V} {u : Value} (h : VR W v u) (k : notOld v = true) : handedIn u = true := by
  cases h <;> first | rfl | cases k
theorem getL_skip {name k : Str} {h : Int} {t : Tok} {x : Value} {es : List DictEntry} (ne : (k == name) = false) : getL name (⟨h, .str k t, x⟩ :: es) = getL name es := by
  simp only [getL, List.find?_cons, Value.isStr, ne, List.any_cons, DictEntry.refKey, Bool.false_or]
  rfl
theorem FRs.get {W : Wd} {name : Str} {v : V} : ∀ {fs : List (Str × V)} {es : List DictEntry}, FRs W fs es → fs.lookup name = some v → ∃ u, getL name es = some (some u) ∧ VR W v u
  | _, _, .nil, h => by cases h
  | _, _, .cons (k := k) (x := x) hv q, h => by
    rw [List.lookup_cons] at h
    cases e : name == k with
    | true =>
      rw [e] at h; cases h
      have e' : k = name := (beq_iff_eq.mp e).symm
      subst e'
      exact ⟨x, by simp [getL, Value.isStr], hv⟩
    | false =>
      rw [e] at h
      obtain ⟨u, h1, h2⟩ := FRs.get q h
      refine ⟨u, ?_, h2⟩
      have ne : (k == name) = false := by rw [BEq.comm]; exact e
      exact (getL_skip ne).trans h1
theorem FRs.no {W : Wd} {name : Str} : ∀ {fs : List (Str × V)} {es : List DictEntry}, FRs W fs es → fs.lookup name = none → getL name es = some none
  | _, _, .nil, _ => rfl
  | _, _, .cons (k := k) (x := x) hv q, h => by
    rw [List.lookup_cons] at h
    cases e : name == k with
    | true => rw [e] at h; cases h
    | false =>
      rw [e] at h
      have ne : (k == name) = false := by rw [BEq.comm]; exact e
      exact (getL_skip ne).trans (FRs.no q h)
theorem att_own (O : Ok S c n) {C : Addr} {fs : List (Str × V)} {name : Str} {v : V} {attr : Option Value} {P : V → St → Prop} (hl : fs.lookup name = some v) (hg : plainGet S.K C name = true) (hh : hasDictIn S.K C = true) (ha : findIn S.K (.ref C) name = some attr) (hn : noGet S.K attr = true) (hv : notOld v = true) (h : P v σ) :
    AttS S c (.inst C fs) name σ P := fun W x hx m s Q r q => by
  cases hx with
  | inst h1 h2 h3 =>
    obtain ⟨u, e1, e2⟩ := h3.get hl
    exact get_own r.F O.X (InstAt.of_news r.N h1 h2) hg hh ha hn e1 (e2.handed hv) (q _ _ σ W _ _ h (r.tok _) .refl e2)
abbrev CwS (S : Sx) (c : Cx) (env : Env) (pos : Pos) (f : V) (first : List V) (es : List Expr) (σ : St) (P : V → St → Prop) : Prop := ∀ W x xs, VR W f x → VRs W first xs → Wp S c [] σ W (callWith pos x xs (backTo pos (starEach es env)) []) VR P
theorem ev_call {f : Expr} {es : List Expr} {pos : Pos} {P : V → St → Prop} (he : eval (.Call f es [] pos) env = (do callWith pos (← eval f env) [] (backTo pos (starEach es env)) (backToKw pos (keywordEach [] env))))
    (h : EvS S c env f σ fun v σ₁ => CwS S c env pos v [] es σ₁ P) : EvS S c env (.Call f es [] pos) σ P := fun W m s Q r q => by
  refine Call_ (h W m s _ r fun v u σ₁ W₁ m₁ s₁ h₁ r₁ l₁ e₁ => ?_) he
  exact h₁ W₁ u [] e₁ .nil m₁ s₁ _ r₁ fun g b' σ' W' m' s' p r3 l3 e => q g b' σ' W' m' s' p r3 (l₁.trans l3) e
theorem VRs.append {W : Wd} : ∀ {vs ws : List V} {xs ys : List Value}, VRs W vs xs → VRs W ws ys → VRs W (vs ++ ws) (xs ++ ys)
  | _, _, _, _, .nil, q => q
  | _, _, _, _, .cons h r, q => .cons h (VRs.append r q)
theorem cw_K (O : Ok S c n) {pos : Pos} {f : Value} {first : List V} {e : Expr} {rest : List Expr} {P : V → St → Prop} (hk : keepIn S.K f = true) (he : starEach (e :: rest) env = (false, eval e env) :: starEach rest env) (hp : (backTo pos (starEach rest env)).any (·.1) = false)
    (h : EvsS S c env pos (e :: rest) σ fun vs σ₁ => CallS S c (.old f) (first ++ vs) σ₁ P) : CwS S c env pos (.old f) first (e :: rest) σ P := fun W x xs hx hf m s Q r q => by
  cases hx
  refine callWith_K (h₀ := c.h₀) O.X hk (h W m s _ r fun vs us σ₁ W₁ m₁ s₁ h₁ r₁ l₁ e₁ => ⟨O.X.keeps r₁.F.keep, ?_⟩) he hp
  exact h₁ W₁ f _ .old ((VRs.mono l₁.le hf).append e₁) m₁ s₁ _ r₁ fun g b' σ' W' m' s' p r3 l3 e => q g b' σ' W' m' s' p r3 (l₁.trans l3) e
theorem cw_K0 (O : Ok S c n) {pos : Pos} {f : Value} {first : List V} {P : V → St → Prop} (hk : keepIn S.K f = true) (h : CallS S c (.old f) first σ P) : CwS S c env pos (.old f) first [] σ P := fun W x xs hx hf m s Q r q => by
  cases hx
  refine callWith_K0 (O.X.keeps r.F.keep) hk ?_
  rw [List.append_nil]
  exact h W f xs .old hf m s _ r q
theorem cw_B (hb : True) {pos : Pos} {id : String} {first : List V} {e : Expr} {rest : List Expr} {P : V → St → Prop} (he : starEach (e :: rest) env = (false, eval e env) :: starEach rest env) (hp : (backTo pos (starEach rest env)).any (·.1) = false)
    (h : EvsS S c env pos (e :: rest) σ fun vs σ₁ => CallS S c (.old (.builtin id)) (first ++ vs) σ₁ P) : CwS S c env pos (.old (.builtin id)) first (e :: rest) σ P := fun W x xs hx hf m s Q r q => by
  cases hx
  have hw := h W m s (fun vs s₁ => True ∧ wpAny (model S.prog S.w) c.A (call (.builtin id) (xs ++ vs)) Q (fun _ _ => False) s₁) r fun vs us σ₁ W₁ m₁ s₁ h₁ r₁ l₁ e₁ => ⟨trivial, h₁ W₁ _ _ .old ((VRs.mono l₁.le hf).append e₁) m₁ s₁ _ r₁ fun g b' σ' W' m' s' p r3 l3 e => q g b' σ' W' m' s' p r3 (l₁.trans l3) e⟩
  rw [he] at hw ⊢
  exact callWith_of (P := fun _ => True) (by show ((false || (backTo pos (starEach rest env)).any (·.1)) || false) = false; rw [hp]; rfl) (fun _ _ => ⟨.machine, .inr (.inl rfl), Looks.of_pure rfl⟩) (evalArgs_plain hw)
theorem cw_B0 {pos : Pos} {id : String} {first : List V} {P : V → St → Prop} (h : CallS S c (.old (.builtin id)) first σ P) : CwS S c env pos (.old (.builtin id)) first [] σ P := fun W x xs hx hf m s Q r q => by
  cases hx
  exact callWith_of (P := fun _ => True) rfl (fun _ _ => ⟨.machine, .inr (.inl rfl), Looks.of_pure rfl⟩) (evalArgs_nil3 ⟨trivial, by
    show wpAny _ _ (call (.builtin id) (xs ++ [])) _ _ _
    rw [List.append_nil]; exact h W _ xs .old hf m s _ r q⟩)
theorem cw_T {pos : Pos} {id : String} {first : List V} {e : Expr} {rest : List Expr} {P : V → St → Prop} (he : starEach (e :: rest) env = (false, eval e env) :: starEach rest env) (hp : (backTo pos (starEach rest env)).any (·.1) = false)
    (h : EvsS S c env pos (e :: rest) σ fun vs σ₁ => CallS S c (.old (.type id)) (first ++ vs) σ₁ P) : CwS S c env pos (.old (.type id)) first (e :: rest) σ P := fun W x xs hx hf m s Q r q => by
  cases hx
  have hw := h W m s (fun vs s₁ => True ∧ wpAny (model S.prog S.w) c.A (call (.type id) (xs ++ vs)) Q (fun _ _ => False) s₁) r fun vs us σ₁ W₁ m₁ s₁ h₁ r₁ l₁ e₁ => ⟨trivial, h₁ W₁ _ _ .old ((VRs.mono l₁.le hf).append e₁) m₁ s₁ _ r₁ fun g b' σ' W' m' s' p r3 l3 e => q g b' σ' W' m' s' p r3 (l₁.trans l3) e⟩
  rw [he] at hw ⊢
  exact callWith_of (P := fun _ => True) (by show ((false || (backTo pos (starEach rest env)).any (·.1)) || false) = false; rw [hp]; rfl) (fun _ _ => ⟨.machine, .inr (.inl rfl), Looks.of_pure rfl⟩) (evalArgs_plain hw)
abbrev MthS (S : Sx) (c : Cx) (a : V) (name : Str) (σ : St) (P : V → List V → Prop) : Prop := ∀ (pl : Sem Bool) (m : Str → Option Value) W x (s : Shared) (Q : Value × List Value → Shared → Prop), VR W a x → R S c σ W m s → (∀ f first f' first', P f first → VR W f f' → VRs W first first' → Q (f', first') s) → wpAny (model S.prog S.w) c.A (getMethod x name pl) Q (fun _ _ => False) s
theorem ev_meth {pl : Sem Bool} {o : Expr} {name : Str} {apos pos : Pos} {es : List Expr} {P : V → St → Prop} (he : eval (.Call (.Attribute o name apos) es [] pos) env = (do
      let ov ← eval o env
      standAt apos.atName
      let (f, first) ← holding [ov] (getMethod ov name pl)
      callWith pos f first (backTo pos (starEach es env)) []))
    (h : EvS S c env o σ fun v σ₁ => MthS S c v name σ₁ fun f first => CwS S c env pos f first es σ₁ P) : EvS S c env (.Call (.Attribute o name apos) es [] pos) σ P := fun W m s Q r q => by
  refine MethodCall_ (pl := pl) (h W m s _ r fun v u σ₁ W₁ m₁ s₁ h₁ r₁ l₁ e₁ => ?_) he
  refine h₁ pl m₁ W₁ u s₁ _ e₁ r₁ fun f first f' first' hp h2 h3 => ?_
  exact hp W₁ f' first' h2 h3 m₁ s₁ _ r₁ fun g b' σ' W' m' s' p r3 l3 e => q g b' σ' W' m' s' p r3 (l₁.trans l3) e
theorem mth_inst (O : Ok S c n) {C f : Addr} {fs : List (Str × V)} {name : Str} {P : V → List V → Prop} (hl : fs.lookup name = none) (hg : plainGet S.K C name = true) (hf : findIn S.K (.ref C) name = some (some (.ref f))) (ht : isFn S.K (.ref f) = true)
    (h : P (.old (.ref f)) [.inst C fs]) : MthS S c (.inst C fs) name σ P := fun pl m W x s Q hx r q => by
  cases hx with
  | inst h1 h2 h3 => exact method_inst r.F O.X (InstAt.of_news r.N h1 h2) hg hf ht (h3.no hl) (q _ _ _ _ h .old (.cons (.inst h1 h2 h3) .nil))
theorem R.lstAt {W : Wd} {m : Str → Option Value} {s : Shared} {k : Nat} {vs : List V} {x : Value} (r : R S c σ W m s) (hv : σ.ls[k]? = some vs) (hx : VR W (.lst k) x) : ∃ a xs c', x = .ref a ∧ W.al[k]? = some a ∧ (a, listOf xs.toArray c') ∈ W.news ∧ VRs W vs xs := by
  obtain ⟨a, xs, c', h1, h2, h3⟩ := r.ls k vs hv
  cases hx with
  | lst h => rw [h1] at h; cases h; exact ⟨a, xs, c', rfl, h1, h2, h3⟩
theorem mth_list {k : Nat} {vs : List V} {name : Str} {id : String} {P : V → List V → Prop} (hv : σ.ls[k]? = some vs) (slot : Slot "list" name id) (hty : typeOf (.builtin id) = pure (.type "method_descriptor")) (h : P (.old (.builtin id)) [.lst k]) : MthS S c (.lst k) name σ P := fun pl m W x s Q hx r q => by
  obtain ⟨a, xs, c', rfl, h1, h2, h3⟩ := r.lstAt hv hx
  exact kl_method r.N h2 slot hty (q _ _ _ _ h .old (.cons (.lst h1) .nil))
theorem call_isi_int (O : Ok S c n) {i : Int} {C : Value} {b : Bool} {P : V → St → Prop} (e : kitOne S.K (.type "int") C = some b) (h : P (.bool b) σ) : CallS S c (.old (.builtin "isinstance")) [.int i, .old C] σ P := fun W x xs hx hxs m s Q r q => by
  cases hx
  cases hxs with
  | cons h1 h2 => cases h2 with
    | cons h2 h3 => cases h3; cases h1; cases h2; exact kia_one kitx_int (O.X.keeps r.F.keep) trivial e (fun h => nomatch h) fun tk => q _ _ σ W _ _ h (r.tok _) .refl .bool
structure OwnCls (K : Frag) (D : Addr) : Prop where
  hg : plainGet K D "__class__" = true
  hdct : hasDictIn K D = true
  ha : findIn K (.ref D) "__class__" = some (some (.builtin "object.__class__"))
  hn : specialIn K (.builtin "object.__class__") "__get__" = some (some (.builtin "getset_descriptor.__get__"))
  htk : takesIn K (.builtin "object.__class__") = some true
  hm : mroIn K D (.type "object") = some true
theorem call_isi_inst (O : Ok S c n) {D : Addr} {fs : List (Str × V)} {C : Value} {b : Bool} {P : V → St → Prop} (X : OwnCls S.K D) (e : kitOne S.K (.ref D) C = some b) (h : P (.bool b) σ) : CallS S c (.old (.builtin "isinstance")) [.inst D fs, .old C] σ P := fun W x xs hx hxs m s Q r q => by
  cases hx
  cases hxs with
  | cons h1 h2 => cases h2 with
    | cons h2 h3 => cases h3; cases h2; cases h1 with
      | inst a1 a2 a3 => exact kia_one (kitx_own X.hg X.hdct X.ha X.hn X.htk X.hm) (O.X.keeps r.F.keep) (InstAt.of_news r.N a1 a2) e (fun h => nomatch h) fun tk => q _ _ σ W _ _ h (r.tok _) .refl .bool
def oldOf : V → Value
  | .old v => v
  | _ => .none
theorem VRs.olds {W : Wd} : ∀ {vs : List V} {xs : List Value}, (vs.all fun v => !notOld v) = true → VRs W vs xs → xs = vs.map oldOf
  | _, _, _, .nil => rfl
  | v :: vs, x :: xs, k, .cons h q => by
    simp only [List.all_cons, Bool.and_eq_true] at k
    rw [List.map_cons, ← VRs.olds k.2 q]
    cases h <;> first | rfl | exact Bool.noConfusion (show false = true from k.1)
theorem call_isi_int_tup (O : Ok S c n) {i : Int} {cs : List V} {b : Bool} {P : V → St → Prop} (ho : (cs.all fun v => !notOld v) = true) (e : kitAny S.K (.type "int") (cs.map oldOf) = some b) (h : P (.bool b) σ) : CallS S c (.old (.builtin "isinstance")) [.int i, .tup cs] σ P := fun W x xs hx hxs m s Q r q => by
  cases hx
  cases hxs with
  | cons h1 h2 => cases h2 with
    | cons h2 h3 => cases h3; cases h1; cases h2 with
      | tup a1 a2 =>
        have ex := a2.olds ho
        subst ex
        exact kia_tup kitx_int (O.X.keeps r.F.keep) trivial (r.N.get a1) e (fun h => nomatch h) fun tk => q _ _ σ W _ _ h (r.tok _) .refl .bool
theorem call_isi_inst_tup (O : Ok S c n) {D : Addr} {fs : List (Str × V)} {cs : List V} {b : Bool} {P : V → St → Prop} (X : OwnCls S.K D) (ho : (cs.all fun v => !notOld v) = true) (e : kitAny S.K (.ref D) (cs.map oldOf) = some b) (h : P (.bool b) σ) : CallS S c (.old (.builtin "isinstance")) [.inst D fs, .tup cs] σ P := fun W x xs hx hxs m s Q r q => by
  cases hx
  cases hxs with
  | cons h1 h2 => cases h2 with
    | cons h2 h3 => cases h3; cases h1 with
      | inst b1 b2 b3 => cases h2 with
        | tup a1 a2 =>
          have ex := a2.olds ho
          subst ex
          exact kia_tup (kitx_own X.hg X.hdct X.ha X.hn X.htk X.hm) (O.X.keeps r.F.keep) (InstAt.of_news r.N b1 b2) (r.N.get a1) e (fun h => nomatch h) fun tk => q _ _ σ W _ _ h (r.tok _) .refl .bool
theorem VR.isTup {W : Wd} {vs : List V} {x : Value} {m : Str → Option Value} {s : Shared} (h : VR W (.tup vs) x) (r : R S c σ W m s) : ∃ a xs, x = .ref a ∧ (a, tupO xs.toArray) ∈ W.news ∧ VRs W vs xs ∧ IsTup s.heap a xs.toArray := by
  cases h with
  | tup h1 h2 => exact ⟨_, _, rfl, h1, h2, ⟨_, (r.N _ h1).1, rfl, _, rfl⟩⟩
theorem call_len_list {k : Nat} {vs : List V} {P : V → St → Prop} (hv : σ.ls[k]? = some vs) (hz : vs.length < 1000) (h : P (.int vs.length) σ) : CallS S c (.old (.builtin "len")) [.lst k] σ P := fun W x xs hx hxs m s Q r q => by
  cases hx
  cases hxs with
  | cons h1 h2 =>
    cases h2
    obtain ⟨a, ys, c', rfl, a1, a2, a3⟩ := r.lstAt hv h1
    have e := a3.length
    exact kst_len r.N a2 e (by omega) (q _ _ σ W _ _ h (r.tok _) .refl .int)
abbrev SubT (S : Sx) (c : Cx) (value slice : Expr) (o i : V) (σ : St) (P : V → St → Prop) : Prop := ∀ W x y, VR W o x → VR W i y → Wp S c [] σ W (subscriptTail value slice x y) VR P
theorem ev_sub {value slice : Expr} {pos : Pos} {P : V → St → Prop} (h : EvS S c env value σ fun o σ₁ => EvS S c env slice σ₁ fun i σ₂ => SubT S c value slice o i σ₂ P) : EvS S c env (.Subscript value slice pos) σ P := fun W m s Q r' q => by
  refine Subscript_ (h W m s _ r' fun a x σ₁ W₁ m₁ s₁ h₁ r₁ l₁ e₁ => h₁ W₁ m₁ s₁ _ r₁ fun b y σ₂ W₂ m₂ s₂ h₂ r₂ l₂ e₂ => ?_)
  exact h₂ W₂ x y (e₁.mono l₂.le) e₂ m₂ s₂ _ r₂ fun g b' σ' W' m' s' p r3 l3 e => q g b' σ' W' m' s' p r3 ((l₁.trans l₂).trans l3) e
theorem VRs.get {W : Wd} : ∀ {vs : List V} {xs : List Value} {j : Nat} {v : V}, VRs W vs xs → vs[j]? = some v → ∃ x, xs[j]? = some x ∧ VR W v x
  | _, _, _, _, .nil, h => by simp at h
  | _, _, 0, _, .cons h q, e => by cases e; exact ⟨_, rfl, h⟩
  | _, _, j + 1, _, .cons h q, e => by simpa using VRs.get q (by simpa using e)
theorem getItem_lst {W : Wd} {m : Str → Option Value} {s : Shared} {A : Around} {E : Value → Shared → Prop} {k : Nat} {vs : List V} {i : Int} {x : Value} {t : Tok} {j : Nat} {v : V} {Q : Value → Shared → Prop} (r : R S c σ W m s) (hv : σ.ls[k]? = some vs) (hx : VR W (.lst k) x) (h0 : 0 ≤ i) (h1 : i < 1000) (hj : vs[i.toNat]? = some v) (q : ∀ u, VR W v u → Q u s) : wpAny (model S.prog S.w) A (getItem x (.int i t)) Q E s := by
  obtain ⟨a, xs, c', rfl, a1, a2, a3⟩ := r.lstAt hv hx
  obtain ⟨u, hu, hu'⟩ := a3.get hj
  exact getItem_listL ⟨_, (r.N _ a2).1, rfl, _, rfl⟩ h0 (by omega) hu (q u hu')
theorem sub_tup {value slice : Expr} {vs : List V} {i : Int} {j : Nat} {v : V} {P : V → St → Prop} (hs : ∀ a t, subscripted slice false (.ref a) (.int i t) = operate [.ref a, .int i t] (getItem (.ref a) (.int i t))) (h0 : decide (-1000 < i) = true) (h1 : decide (i < 1000) = true) (hj : seqIndex? i vs.length = some j) (hv : vs[j]? = some v) (h : P v σ) : SubT S c value slice (.tup vs) (.int i) σ P := fun W x y hx hy m s Q r q => by
  cases hy
  obtain ⟨a, xs, rfl, a1, a2, a3⟩ := hx.isTup r
  obtain ⟨u, hu, hu'⟩ := a2.get hv
  have h0 := of_decide_eq_true h0
  have h1 := of_decide_eq_true h1
  exact item_tupleT (l := xs) a3 (by omega) (by omega) (by rw [a2.length]; exact hj) hu (q _ _ σ W _ _ h r .refl hu') (hs _ _)
theorem sub_lst {value slice : Expr} {k : Nat} {vs : List V} {i : Int} {v : V} {P : V → St → Prop} (hs : ∀ a t, subscripted slice false (.ref a) (.int i t) = operate [.ref a, .int i t] (getItem (.ref a) (.int i t))) (hk : σ.ls[k]? = some vs) (h0 : decide (0 ≤ i) = true) (h1 : decide (i < 1000) = true) (hv : vs[i.toNat]? = some v) (h : P v σ) : SubT S c value slice (.lst k) (.int i) σ P := fun W x y hx hy m s Q r q => by
  have h0 := of_decide_eq_true h0
  have h1 := of_decide_eq_true h1
  cases hy
  obtain ⟨a, xs, c', rfl, a1, a2, a3⟩ := r.lstAt hk hx
  obtain ⟨u, hu, hu'⟩ := a3.get hv
  have hl : s.heap.IsList a xs.toArray := ⟨_, (r.N _ a2).1, rfl, _, rfl⟩
  exact tail_any hl.typeIs slot_list_getitem.lookup (getItem_listL hl h0 (by omega) hu (q _ _ σ W _ _ h r .refl hu')) (hs _ _)
end
end Mine

end

section
set_option maxRecDepth 100000
set_option autoImplicit false
set_option linter.unusedVariables false
namespace Mine
open PySem PySem.W PyProof.Rows PySem.Calls PyProof.Rows.LCg
section
variable {S : Sx} {c : Cx} {env : Env} {σ : St} {n : Nat} {W : Wd} {m : Str → Option Value} {s : Shared}
theorem R.keep {h' : Heap} {tk : Nat} (r : R S c σ W m s) (k : ∀ b o, s.heap.get? b = some o → h'.get? b = some o) : R S c σ W m { s with heap := h', toks := tk } :=
  ⟨r.F.keeps k, r.N.grown k, r.loc, r.cel, r.cvz, r.cv, r.ls, r.len, r.nd, r.fz.grown k, r.fd, r.fx, r.calm, r.mfix, r.tabs, r.gens, r.os⟩
def setL (x : Str) (v : V) (σ : St) : St := { σ with loc := (x, v) :: σ.loc }
theorem R.store {h' : Heap} {tk : Nat} {x : Str} {v : V} {u : Value} (hel : c.el = false) (r : R S c σ W m s) (hn : h'.Ns c.L (fun y => if y = x then some u else m y)) (hs : Heap.SameBut c.L s.heap h') (hc : c.fenv.cells.lookup x = none) (hv : VR W v u) :
    R S c (setL x v σ) W (fun y => if y = x then some u else m y) { s with heap := h', toks := tk } := by
  refine ⟨r.F.set hn hs, r.N.set hs, fun y w e => ?_, r.cel, r.cvz, r.cv, r.ls, r.len, r.nd, r.fz.set hs, r.fd, r.fx, r.calm, fun h => (by rw [hel] at h; cases h), r.tabs, r.gens, r.os⟩
  simp only [setL, List.lookup_cons] at e
  cases q : y == x with
  | true =>
    rw [q] at e; cases e
    refine ⟨u, hv, ?_⟩
    unfold LocAt
    rw [beq_iff_eq.mp q, hc]
    simp
  | false =>
    rw [q] at e
    obtain ⟨u', h1, h2⟩ := r.loc y w e
    refine ⟨u', h1, ?_⟩
    unfold LocAt at h2 ⊢
    split
    · rename_i z; rw [z] at h2
      have : ¬ y = x := fun h => by rw [h, beq_self_eq_true] at q; cases q
      simp only [this, if_false]; exact h2
    · rename_i z a; rw [a] at h2; exact h2

theorem R.weaken {σ' : St} (r : R S c σ W m s) (hl : ∀ x v, σ'.loc.lookup x = some v → σ.loc.lookup x = some v) (h2 : σ'.cv = σ.cv) (h3 : σ'.ls = σ.ls) : R S c σ' W m s :=
  ⟨r.F, r.N, fun x v e => r.loc x v (hl x v e), r.cel, h2 ▸ r.cvz, h2 ▸ r.cv, h3 ▸ r.ls, h3 ▸ r.len, r.nd, r.fz, r.fd, r.fx, r.calm, r.mfix, r.tabs, r.gens, r.os⟩
abbrev AsgS (S : Sx) (c : Cx) (t : Expr) (v : V) (σ : St) (P : Unit → St → Prop) : Prop := ∀ W x, VR W v x → Wp S c (ownOf c) σ W (assign t c.fenv x) (fun _ _ _ => True) P
abbrev StoS (S : Sx) (c : Cx) (x : Str) (v : V) (σ : St) (P : Unit → St → Prop) : Prop := ∀ W u, VR W v u → Wp S c (ownOf c) σ W (storeName c.fenv x u) (fun _ _ _ => True) P
theorem sto_loc (O : Ok S c n) (hel : c.el = false) {x : Str} {v : V} {P : Unit → St → Prop} {E : Env} (hE : c.fenv = E) (hk : E.kindOf x = some .local) (hc : E.cells.lookup x = none) (h : P () (setL x v σ)) : StoS S c x v σ P := fun W u hu m s Q r q => by
  subst hE
  refine wpAny_storeName_local hk (by rw [O.hl]; exact r.F.ns) (fun h' hn hs => ?_) ?_
  · rw [O.hl] at hn hs
    exact q () () _ W _ _ h (r.store hel hn hs hc hu) .refl trivial
  · rw [O.hke]; rfl
theorem asg_name {x : Str} {p : Pos} {v : V} {P : Unit → St → Prop} (h : StoS S c x v σ P) : AsgS S c (.Name x p) v σ P := fun W u hu m s Q r q => assign_Name (h W u hu m s Q r q)
abbrev AllA (S : Sx) (c : Cx) (ts : List Expr) (vs : List V) (σ : St) (P : Unit → St → Prop) : Prop := ∀ W xs, VRs W vs xs → Wp S c (ownOf c) σ W (assignInOrder (ts.map fun t => assign t c.fenv) xs) (fun _ _ _ => True) P
theorem alla_nil {P : Unit → St → Prop} (h : P () σ) : AllA S c [] [] σ P := fun W xs hx m s Q r q => assignInOrder_nil (q () () σ W m s h r .refl trivial)
theorem alla_cons {t : Expr} {ts : List Expr} {v : V} {vs : List V} {P : Unit → St → Prop} (h : AsgS S c t v σ fun _ σ₁ => AllA S c ts vs σ₁ P) : AllA S c (t :: ts) (v :: vs) σ P := fun W xs hx m s Q r q => by
  cases hx with
  | cons h1 h2 => exact assignInOrder_cons (h W _ h1 m s _ r fun _ _ σ₁ W₁ m₁ s₁ h₁ r₁ l₁ _ => h₁ W₁ _ (h2.mono l₁.le) m₁ s₁ _ r₁ fun g b σ' W' m' s' p r3 l3 e => q g b σ' W' m' s' p r3 (l₁.trans l3) e)
theorem asg_tuple (O : Ok S c n) {ts : List Expr} {k : Nat} {p : Pos} {vs : List V} {P : Unit → St → Prop} (he : (assignEach ts c.fenv).map (·.2) = ts.map fun t => assign t c.fenv) (hl : (assignEach ts c.fenv).length = vs.length) (hs : (assignEach ts c.fenv).findIdx? (·.1) = none)
    (h : AllA S c ts vs σ P) : AsgS S c (.Tuple ts k p) (.tup vs) σ P := fun W x hx m s Q r q => by
  obtain ⟨a, xs, rfl, a1, a2, a3⟩ := hx.isTup r
  refine wpAny_assign_Tuple O.hh a3 (by rw [hl, List.size_toArray, a2.length]) hs fun h' hx' => ?_
  rw [he]
  exact h W xs a2 m _ Q (r.keep (tk := s.toks) fun b o e => hx' b o (Nat.ne_of_lt (Heap.lt_size e)) e) q

theorem asg_pair (O : Ok S c n) {t1 t2 : Expr} {k : Nat} {p : Pos} {v w : V} {P : Unit → St → Prop} (he : (assignEach [t1, t2] c.fenv).map (·.2) = [assign t1 c.fenv, assign t2 c.fenv]) (hl : (assignEach [t1, t2] c.fenv).length = 2) (hs : (assignEach [t1, t2] c.fenv).findIdx? (·.1) = none)
    (h : AllA S c [t1, t2] [v, w] σ P) {W : Wd} {T : Addr} {x y : Value} (hx : VR W v x) (hy : VR W w y) {m : Str → Option Value} {s : Shared} {Q : Unit → Shared → Prop} (r : R S c σ W m s) (hT : s.heap.IsTuple T #[x, y])
    (q : ∀ g b σ' W' m' s', P g σ' → R S c σ' W' m' s' → Gr c (ownOf c) W W' → True → Q b s') : wpAny (model S.prog S.w) c.A (assign (.Tuple [t1, t2] k p) c.fenv (.ref T)) Q (fun _ _ => False) s := by
  refine wpAny_assign_Tuple O.hh hT (by rw [hl]; rfl) hs fun h' hx' => ?_
  rw [he]
  exact h W [x, y] (.cons hx (.cons hy .nil)) m _ Q (r.keep (tk := s.toks) fun b o e => hx' b o (Nat.ne_of_lt (Heap.lt_size e)) e) q
theorem bl_nil {P : Fl → St → Prop} (h : P .next σ) : BlS S c [] σ P := fun W m s Q r q => wpAny_execs_nil (q .next .next σ W m s h r .refl rfl)
def seqK (S : Sx) (c : Cx) (rest : List Stmt) (P : Fl → St → Prop) : Fl → St → Prop
  | .next, σ => BlS S c rest σ P
  | .ret v, σ => P (.ret v) σ
theorem seq_next {rest : List Stmt} {P : Fl → St → Prop} (h : BlS S c rest σ P) : seqK S c rest P .next σ := h
theorem seq_ret {rest : List Stmt} {v : V} {P : Fl → St → Prop} (h : P (.ret v) σ) : seqK S c rest P (.ret v) σ := h
theorem bl_cons {st : Stmt} {rest : List Stmt} {P : Fl → St → Prop} (h : StS S c st σ (seqK S c rest P)) : BlS S c (st :: rest) σ P := fun W m s Q r q => by
  refine wpAny_execs_cons (h W m s _ r fun f b σ₁ W₁ m₁ s₁ h₁ r₁ l₁ e₁ => ?_)
  cases f with
  | next => cases e₁; exact h₁ W₁ m₁ s₁ _ r₁ fun g b' σ' W' m' s' p r3 l3 e => q g b' σ' W' m' s' p r3 (l₁.trans l3) e
  | ret v => obtain ⟨x, rfl, hx⟩ := e₁; exact q _ _ σ₁ W₁ m₁ s₁ h₁ r₁ l₁ ⟨x, rfl, hx⟩
theorem st_ret {e : Expr} {pos : Pos} {P : Fl → St → Prop} (h : EvS S c c.fenv e σ fun v σ₁ => P (.ret v) σ₁) : StS S c (.Return (some e) pos) σ P := fun W m s Q r q =>
  wpAny_Return_some (h W m s _ r fun v u σ₁ W₁ m₁ s₁ h₁ r₁ l₁ e₁ => q _ _ σ₁ W₁ m₁ s₁ h₁ r₁ l₁.own ⟨u, rfl, e₁⟩)
theorem st_if {t : Expr} {body orelse : List Stmt} {pos : Pos} {P : Fl → St → Prop} (h : TestS S c c.fenv t σ fun b σ₁ => if b = true then BlS S c body σ₁ P else BlS S c orelse σ₁ P) : StS S c (.If t body orelse pos) σ P := fun W m s Q r q => by
  refine wpAny_If (h W m s _ r fun b b' σ₁ W₁ m₁ s₁ h₁ r₁ l₁ e₁ => ?_)
  subst e₁
  cases b' <;> exact h₁ W₁ m₁ s₁ _ r₁ fun g b' σ' W' m' s' p r3 l3 e => q g b' σ' W' m' s' p r3 (l₁.own.trans l3) e
theorem st_asg {x : Str} {p : Pos} {value : Expr} {pos : Pos} {P : Fl → St → Prop} (hs : swapsWith value (some (.Name x p)) pos.line c.fenv = pure false) (h : EvS S c c.fenv value σ fun v σ₁ => StoS S c x v σ₁ fun _ σ₂ => P .next σ₂) : StS S c (.Assign [.Name x p] value pos) σ P := fun W m s Q r q =>
  wpAny_Assign_Name (h W m s _ r fun v u σ₁ W₁ m₁ s₁ h₁ r₁ l₁ e₁ => h₁ W₁ u e₁ m₁ s₁ _ r₁ fun _ _ σ₂ W₂ m₂ s₂ h₂ r₂ l₂ _ => q _ _ σ₂ W₂ m₂ s₂ h₂ r₂ (l₁.own.trans l₂) rfl) hs
theorem st_asgT {ts : List Expr} {k : Nat} {p : Pos} {value : Expr} {pos : Pos} {P : Fl → St → Prop} (hs : swapsWithSole [.Tuple ts k p] value pos.line c.fenv = pure false) (hw : swappedStores [.Tuple ts k p] value c.fenv = pure none)
    (h : EvS S c c.fenv value σ fun v σ₁ => AsgS S c (.Tuple ts k p) v σ₁ fun _ σ₂ => P .next σ₂) : StS S c (.Assign [.Tuple ts k p] value pos) σ P := fun W m s Q r q =>
  Assign_Tuple (h W m s _ r fun v u σ₁ W₁ m₁ s₁ h₁ r₁ l₁ e₁ => h₁ W₁ u e₁ m₁ s₁ _ r₁ fun _ _ σ₂ W₂ m₂ s₂ h₂ r₂ l₂ _ => q _ _ σ₂ W₂ m₂ s₂ h₂ r₂ (l₁.own.trans l₂) rfl) hs hw
abbrev AllN (S : Sx) (c : Cx) (ns : List Str) (vs : List V) (σ : St) (P : Unit → St → Prop) : Prop := ∀ W xs, VRs W vs xs → Wp S c (ownOf c) σ W (assignInOrder (ns.map fun x => bindName c.fenv x) xs) (fun _ _ _ => True) P
theorem alln_nil {P : Unit → St → Prop} (h : P () σ) : AllN S c [] [] σ P := fun W xs hx m s Q r q => assignInOrder_nil (q () () σ W m s h r .refl trivial)
theorem alln_cons {x : Str} {ts : List Str} {v : V} {vs : List V} {P : Unit → St → Prop} (h : StoS S c x v σ fun _ σ₁ => AllN S c ts vs σ₁ P) : AllN S c (x :: ts) (v :: vs) σ P := fun W xs hx m s Q r q => by
  cases hx with
  | cons h1 h2 => exact assignInOrder_cons (bindName_ (h W _ h1 m s _ r fun _ _ σ₁ W₁ m₁ s₁ h₁ r₁ l₁ _ => h₁ W₁ _ (h2.mono l₁.le) m₁ s₁ _ r₁ fun g b σ' W' m' s' p r3 l3 e => q g b σ' W' m' s' p r3 (l₁.trans l3) e))
theorem VRs.rev {W : Wd} : ∀ {vs : List V} {xs : List Value}, VRs W vs xs → VRs W vs.reverse xs.reverse
  | _, _, .nil => .nil
  | _, _, .cons h q => by rw [List.reverse_cons, List.reverse_cons]; exact (VRs.rev q).append (.cons h .nil)
theorem st_asgSw (O : Ok S c n) {ts : List Expr} {k : Nat} {p : Pos} {value : Expr} {pos : Pos} {names : List Str} {P : Fl → St → Prop} (hs : swapsWithSole [.Tuple ts k p] value pos.line c.fenv = pure false) (hw : swappedStores [.Tuple ts k p] value c.fenv = pure (some names))
    (h : EvS S c c.fenv value σ fun v σ₁ => ∃ vs, v = .tup vs ∧ vs.length = names.length ∧ AllN S c names.reverse vs.reverse σ₁ fun _ σ₂ => P .next σ₂) : StS S c (.Assign [.Tuple ts k p] value pos) σ P := fun W m s Q r q => by
  refine Assign_Tuple_swapped (h W m s _ r fun v u σ₁ W₁ m₁ s₁ h₁ r₁ l₁ e₁ => ?_) hs hw
  obtain ⟨vs, rfl, hl, h₂⟩ := h₁
  obtain ⟨a, xs, rfl, a1, a2, a3⟩ := e₁.isTup r₁
  refine (show ∀ k, k = names.length → wpAny _ _ (unpackItems (.ref a) k none) _ _ s₁ from fun k hk => ?_) _ rfl
  have hk' : k = xs.toArray.size := by rw [hk, ← hl, List.size_toArray, a2.length]
  subst hk'
  refine wpAny_unpackItems_tuple O.hh a3 fun h' hx' => ?_
  exact h₂ W₁ xs.reverse a2.rev m₁ _ _ (r₁.keep (tk := s₁.toks) fun b o e => hx' b o (Nat.ne_of_lt (Heap.lt_size e)) e) fun _ _ σ₂ W₂ m₂ s₂ h₂ r₂ l₂ _ => q _ _ σ₂ W₂ m₂ s₂ h₂ r₂ (l₁.own.trans l₂) rfl
abbrev LdS (S : Sx) (c : Cx) (x : Str) (σ : St) (P : V → St → Prop) : Prop := ∀ W, Wp S c [] σ W (loadName c.fenv x) VR P
theorem ld_loc (O : Ok S c n) {x : Str} {v : V} {P : V → St → Prop} {E : Env} (hE : c.fenv = E) (hk : E.kindOf x = some .local) (hc : E.cells.lookup x = none) (hv : σ.loc.lookup x = some v) (h : P v σ) : LdS S c x σ P := fun W m s Q r q => by
  obtain ⟨u, h1, h2⟩ := r.loc x v hv
  subst hE
  unfold LocAt at h2; rw [hc] at h2
  exact wpAny_loadName_local O.hke hk (by rw [O.hl]; exact r.F.ns) h2 (q _ _ σ W _ _ h r .refl h1)
theorem st_aug {x : Str} {p : Pos} {op : Operator} {value : Expr} {pos : Pos} {P : Fl → St → Prop} (h : LdS S c x σ fun o σ₁ => EvS S c c.fenv value σ₁ fun v σ₂ => InpS S c op o v σ₂ fun w σ₃ => StoS S c x w σ₃ fun _ σ₄ => P .next σ₄) : StS S c (.AugAssign (.Name x p) op value pos) σ P := fun W m s Q r q =>
  wpAny_AugAssign_Name (h W m s _ r fun o u σ₁ W₁ m₁ s₁ h₁ r₁ l₁ e₁ => h₁ W₁ m₁ s₁ _ r₁ fun v y σ₂ W₂ m₂ s₂ h₂ r₂ l₂ e₂ => h₂ W₂ u y (e₁.mono l₂.le) e₂ m₂ s₂ _ r₂ fun w z σ₃ W₃ m₃ s₃ h₃ r₃ l₃ e₃ => h₃ W₃ z e₃ m₃ s₃ _ r₃ fun _ _ σ₄ W₄ m₄ s₄ h₄ r₄ l₄ _ => q _ _ σ₄ W₄ m₄ s₄ h₄ r₄ (((l₁.trans l₂).trans l₃).own.trans l₄) rfl)
abbrev SetS (S : Sx) (c : Cx) (o i v : V) (σ : St) (P : Unit → St → Prop) : Prop := ∀ W x y z, VR W o x → VR W i y → VR W v z → Wp S c [] σ W (setItem x y z) (fun _ _ _ => True) P
theorem st_augSub {o i value : Expr} {tpos pos : Pos} {op : Operator} {P : Fl → St → Prop} (hi : ∀ ov iv new, augStore i ov iv new = (do holding [new, ov, iv] (setItem ov iv new); release [new, ov, iv] []; pure .next))
    (h : EvS S c c.fenv o σ fun ov σ₁ => EvS S c c.fenv i σ₁ fun iv σ₂ => GetS S c ov iv σ₂ fun old σ₃ => EvS S c c.fenv value σ₃ fun v σ₄ => InpS S c op old v σ₄ fun new σ₅ => SetS S c ov iv new σ₅ fun _ σ₆ => P .next σ₆) : StS S c (.AugAssign (.Subscript o i tpos) op value pos) σ P := fun W m s Q r q =>
  wpAny_AugAssign_SubscriptAny (h W m s _ r fun ov x σ₁ W₁ m₁ s₁ h₁ r₁ l₁ e₁ => h₁ W₁ m₁ s₁ _ r₁ fun iv y σ₂ W₂ m₂ s₂ h₂ r₂ l₂ e₂ => h₂ W₂ x y (e₁.mono l₂.le) e₂ m₂ s₂ _ r₂ fun old z σ₃ W₃ m₃ s₃ h₃ r₃ l₃ e₃ => h₃ W₃ m₃ s₃ _ r₃ fun v u σ₄ W₄ m₄ s₄ h₄ r₄ l₄ e₄ =>
    h₄ W₄ z u (e₃.mono l₄.le) e₄ m₄ s₄ _ r₄ fun new t σ₅ W₅ m₅ s₅ h₅ r₅ l₅ e₅ => h₅ W₅ x y t (e₁.mono ((((l₂.trans l₃).trans l₄).trans l₅).le)) (e₂.mono (((l₃.trans l₄).trans l₅).le)) e₅ m₅ s₅ _ r₅ fun _ _ σ₆ W₆ m₆ s₆ h₆ r₆ l₆ _ => q _ _ σ₆ W₆ m₆ s₆ h₆ r₆ ((((((l₁.trans l₂).trans l₃).trans l₄).trans l₅).trans l₆).own) rfl) hi
theorem st_asgSub {o i value : Expr} {tpos pos : Pos} {P : Fl → St → Prop} (hx : ∀ {M : Model} {A : Around} {E : Value → Shared → Prop} {s : Shared} {Q : Flow → Shared → Prop}, wpAny M A (eval value c.fenv) (fun v s₁ => wpAny M A (eval o c.fenv) (fun ov s₂ => wpAny M A (eval i c.fenv) (fun iv s₃ => wpAny M A (setItem ov iv v) (fun _ => Q .next) E s₃) E s₂) E s₁) E s → wpAny M A (exec (.Assign [.Subscript o i tpos] value pos) c.fenv) Q E s)
    (h : EvS S c c.fenv value σ fun v σ₁ => EvS S c c.fenv o σ₁ fun ov σ₂ => EvS S c c.fenv i σ₂ fun iv σ₃ => SetS S c ov iv v σ₃ fun _ σ₄ => P .next σ₄) : StS S c (.Assign [.Subscript o i tpos] value pos) σ P := fun W m s Q r q =>
  hx (h W m s _ r fun v u σ₁ W₁ m₁ s₁ h₁ r₁ l₁ e₁ => h₁ W₁ m₁ s₁ _ r₁ fun ov x σ₂ W₂ m₂ s₂ h₂ r₂ l₂ e₂ => h₂ W₂ m₂ s₂ _ r₂ fun iv y σ₃ W₃ m₃ s₃ h₃ r₃ l₃ e₃ => h₃ W₃ x y u (e₂.mono l₃.le) e₃ (e₁.mono (l₂.trans l₃).le) m₃ s₃ _ r₃ fun _ _ σ₄ W₄ m₄ s₄ h₄ r₄ l₄ _ => q _ _ σ₄ W₄ m₄ s₄ h₄ r₄ ((((l₁.trans l₂).trans l₃).trans l₄).own) rfl)
theorem get_lst {k : Nat} {vs : List V} {i : Int} {v : V} {P : V → St → Prop} (hk : σ.ls[k]? = some vs) (h0 : decide (0 ≤ i) = true) (h1 : decide (i < 1000) = true) (hv : vs[i.toNat]? = some v) (h : P v σ) : GetS S c (.lst k) (.int i) σ P := fun W x y hx hy m s Q r q => by
  have h0 := of_decide_eq_true h0
  have h1 := of_decide_eq_true h1
  cases hy
  exact getItem_lst (j := 0) r hk hx h0 h1 hv fun u hu => q _ _ σ W _ _ h r .refl hu
theorem VRs.set {W : Wd} {v : V} {z : Value} (hz : VR W v z) : ∀ {vs : List V} {xs : List Value} (j : Nat), VRs W vs xs → VRs W (vs.set j v) (xs.set j z)
  | _, _, _, .nil => .nil
  | _, _, 0, .cons _ q => .cons hz q
  | _, _, j + 1, .cons h q => .cons h (VRs.set hz j q)
theorem set_lst (hfz : c.fz = false) {k : Nat} {vs : List V} {i : Int} {v : V} {P : Unit → St → Prop} (hk : σ.ls[k]? = some vs) (h0 : decide (0 ≤ i) = true) (h1 : decide (i < 1000) = true) (hn : decide (i.toNat < vs.length) = true) (h : SetK σ k (vs.set i.toNat v) (P ())) : SetS S c (.lst k) (.int i) v σ P := fun W x y z hx hy hz m s Q r q => by
  have h0 := of_decide_eq_true h0
  have h1 := of_decide_eq_true h1
  have hn := of_decide_eq_true hn
  cases hy
  obtain ⟨a, xs, c', rfl, a1, a2, a3⟩ := r.lstAt hk hx
  have e := a3.length
  have ho := (r.N _ a2).1
  refine ki_setAt ho h0 (by omega) (by rw [List.size_toArray, e]; omega) ?_
  have e2 := PySem.IsL.update ho (·.setIfInBounds i.toNat z)
  have e3 : xs.toArray.setIfInBounds i.toNat z = (xs.set i.toNat z).toArray := by simp
  rw [e3] at e2
  obtain ⟨r2, g⟩ := r.update (tk := s.toks) hfz a1 a2 (Heap.SameBut.update ..) e2 (a3.set hz i.toNat)
  exact q () () _ _ _ _ h r2 g trivial
end
end Mine

end

section
set_option maxRecDepth 100000
set_option autoImplicit false
set_option linter.unusedVariables false
namespace Mine
open PySem PySem.W PyProof.Rows PySem.Calls PyProof.Rows.LCg
theorem bindL_skip {kindOf : Str → Option NameKind} {x : Str} : ∀ {binds : List (Str × Value)} {m : Str → Option Value}, binds.lookup x = none → bindL kindOf binds m x = m x
  | [], _, _ => rfl
  | (k, v) :: r, m, h => by
    rw [List.lookup_cons] at h
    cases q : x == k with
    | true => rw [q] at h; cases h
    | false =>
      rw [q] at h
      unfold bindL
      rw [bindL_skip h]
      split
      · simp [beq_eq_false_iff_ne.mp q]
      · rfl
theorem bindL_get {kindOf : Str → Option NameKind} {x : Str} {u : Value} (hk : kindOf x = some .local) : ∀ {binds : List (Str × Value)} {m : Str → Option Value}, (binds.map (·.1)).Nodup → binds.lookup x = some u → bindL kindOf binds m x = some u
  | [], _, _, h => by cases h
  | (k, v) :: r, m, hn, h => by
    rw [List.map_cons, List.nodup_cons] at hn
    rw [List.lookup_cons] at h
    unfold bindL
    cases q : x == k with
    | true =>
      rw [q] at h
      have e := beq_iff_eq.mp q
      subst e
      cases h
      have : r.lookup x = none := by
        cases z : r.lookup x with
        | none => rfl
        | some w =>
          exfalso
          obtain ⟨y, hy⟩ : ∃ y, (x, y) ∈ r := ⟨w, by
            clear hn
            induction r with
            | nil => cases z
            | cons p r ih =>
              obtain ⟨a, b⟩ := p
              rw [List.lookup_cons] at z
              cases q' : x == a with
              | true => rw [q'] at z; cases z; rw [beq_iff_eq.mp q']; exact .head _
              | false => rw [q'] at z; exact .tail _ (ih z)⟩
          exact hn.1 (List.mem_map.mpr ⟨_, hy, rfl⟩)
      rw [bindL_skip this, if_pos hk]
      simp
    | false =>
      rw [q] at h
      exact bindL_get hk hn.2 h
theorem bindC_skip {kindOf : Str → Option NameKind} {x : Str} : ∀ {binds : List (Str × Value)} {m : Str → Option Value}, binds.lookup x = none → bindC kindOf binds m x = m x
  | [], _, _ => rfl
  | (k, v) :: r, m, h => by
    rw [List.lookup_cons] at h
    cases q : x == k with
    | true => rw [q] at h; cases h
    | false =>
      rw [q] at h
      unfold bindC
      rw [bindC_skip h]
      split
      · rfl
      · simp [beq_eq_false_iff_ne.mp q]
theorem lookup_none_of {x : Str} : ∀ {r : List (Str × Value)}, x ∉ r.map (·.1) → r.lookup x = none
  | [], _ => rfl
  | (a, b) :: r, h => by
    rw [List.map_cons, List.mem_cons, not_or] at h
    rw [List.lookup_cons, beq_eq_false_iff_ne.mpr h.1]
    exact lookup_none_of h.2
theorem bindC_get {kindOf : Str → Option NameKind} {x : Str} {u : Value} (hk : kindOf x ≠ some .local) : ∀ {binds : List (Str × Value)} {m : Str → Option Value}, (binds.map (·.1)).Nodup → binds.lookup x = some u → bindC kindOf binds m x = some u
  | [], _, _, h => by cases h
  | (k, v) :: r, m, hn, h => by
    rw [List.map_cons, List.nodup_cons] at hn
    rw [List.lookup_cons] at h
    unfold bindC
    cases q : x == k with
    | true =>
      rw [q] at h
      have e := beq_iff_eq.mp q
      subst e
      cases h
      rw [bindC_skip (lookup_none_of hn.1), if_neg hk]
      simp
    | false =>
      rw [q] at h
      exact bindC_get hk hn.2 h
theorem cellsFrom_ge : ∀ (names : List (Str × NameKind)) (k lo : Nat) (acc : List (Str × Addr)), lo ≤ k → (∀ p ∈ acc, lo ≤ p.2) → ∀ p ∈ cellsFrom k names acc, lo ≤ p.2
  | [], _, _, _, _, h => h
  | (name, kind) :: r, k, lo, acc, hk, h => by
    unfold cellsFrom
    split
    · refine cellsFrom_ge r _ lo _ (Nat.le_succ_of_le hk) fun p hp => ?_
      rcases List.mem_cons.mp hp with rfl | hp
      · exact hk
      · exact h p hp
    · exact cellsFrom_ge r _ lo _ hk h
theorem cellsFrom_nodup : ∀ (names : List (Str × NameKind)) (k : Nat) (acc : List (Str × Addr)), (acc.map (·.2)).Nodup → (∀ p ∈ acc, p.2 < k) → ((cellsFrom k names acc).map (·.2)).Nodup
  | [], _, _, h, _ => h
  | (name, kind) :: r, k, acc, h, hl => by
    unfold cellsFrom
    split
    · refine cellsFrom_nodup r _ _ (by
        rw [List.map_cons, List.nodup_cons]
        refine ⟨fun q => ?_, h⟩
        obtain ⟨p, hp, e⟩ := List.mem_map.mp q
        exact Nat.lt_irrefl _ (e ▸ hl p hp)) fun p hp => ?_
      rcases List.mem_cons.mp hp with rfl | hp
      · exact Nat.lt_succ_self _
      · exact Nat.lt_succ_of_lt (hl p hp)
    · exact cellsFrom_nodup r _ _ h hl
theorem lookup_iff_names {x : Str} : ∀ {l l' : List (Str × Addr)}, l.map (·.1) = l'.map (·.1) → (l.lookup x).isSome = (l'.lookup x).isSome
  | [], [], _ => rfl
  | (a, b) :: l, (a', b') :: l', h => by
    simp only [List.map_cons, List.cons.injEq] at h
    obtain ⟨e, h⟩ := h
    subst e
    rw [List.lookup_cons, List.lookup_cons]
    cases x == a
    · exact lookup_iff_names h
    · rfl
  | [], _ :: _, h => by cases h
  | _ :: _, [], h => by cases h
theorem CellsAre.at {cm : Str → Option Value} {x : Str} {a : Addr} : ∀ {cs : List (Str × Addr)} {cells : List (Addr × Obj)}, CellsAre cm cs cells → cs.lookup x = some a → ∃ o, (a, o) ∈ cells ∧ o.data = .cell (cm x)
  | _, _, .nil, h => by cases h
  | _, _, .cons (n := k) hd r, h => by
    rw [List.lookup_cons] at h
    cases q : x == k with
    | true => rw [q] at h; cases h; rw [beq_iff_eq.mp q]; exact ⟨_, .head _, hd⟩
    | false => rw [q] at h; obtain ⟨o, h1, h2⟩ := CellsAre.at r h; exact ⟨o, .tail _ h1, h2⟩
theorem CellsAre.mem {cm : Str → Option Value} : ∀ {cs : List (Str × Addr)} {cells : List (Addr × Obj)}, CellsAre cm cs cells → ∀ x ∈ cs, ∃ o, (x.2, o) ∈ cells ∧ o.data = .cell (cm x.1)
  | _, _, .nil, x, h => nomatch h
  | _, _, .cons hd r, x, h => by
    rcases List.mem_cons.mp h with rfl | h
    · exact ⟨_, .head _, hd⟩
    · obtain ⟨o, h1, h2⟩ := CellsAre.mem r x h; exact ⟨o, .tail _ h1, h2⟩
theorem CellsAre.addr {cm : Str → Option Value} : ∀ {cs : List (Str × Addr)} {cells : List (Addr × Obj)}, CellsAre cm cs cells → ∀ p ∈ cells, (∃ x ∈ cs, x.2 = p.1) ∧ isCel p.2 = true
  | _, _, .nil, p, hp => nomatch hp
  | _, _, .cons hd r, p, hp => by
    rcases List.mem_cons.mp hp with rfl | hp
    · exact ⟨⟨_, .head _, rfl⟩, by simp [isCel, hd]⟩
    · obtain ⟨⟨x, hx, e⟩, h⟩ := CellsAre.addr r p hp
      exact ⟨⟨x, .tail _ hx, e⟩, h⟩
theorem zip_get {W : Wd} {x : Str} {v : V} : ∀ {ns : List Str} {vs : List V} {xs : List Value}, VRs W vs xs → (ns.zip vs).lookup x = some v → ∃ u, (ns.zip xs).lookup x = some u ∧ VR W v u
  | [], _, _, _, h => by simp at h
  | _ :: _, _, _, .nil, h => by simp at h
  | k :: ns, _, _, .cons h0 q, h => by
    rw [List.zip_cons_cons, List.lookup_cons] at h
    cases e : x == k with
    | true => rw [e] at h; cases h; exact ⟨_, by rw [List.zip_cons_cons, List.lookup_cons, e], h0⟩
    | false =>
      rw [e] at h
      obtain ⟨u, h1, h2⟩ := zip_get q h
      exact ⟨u, by rw [List.zip_cons_cons, List.lookup_cons, e]; exact h1, h2⟩
theorem zip_names {α : Type} : ∀ {ns : List Str} {vs : List α}, vs.length = ns.length → (ns.zip vs).map (·.1) = ns
  | [], _, _ => by simp
  | _ :: ns, [], h => by simp at h
  | k :: ns, v :: vs, h => by rw [List.zip_cons_cons, List.map_cons, zip_names (by simpa using h)]
section
variable {prog : Program} {w : World} {A A₀ : Around} {E : Value → Shared → Prop} {s : Shared} {K : Frag} {C L : Addr} {h₀ base : Heap} {m mg mb : Str → Option Value} {news : List (Addr × Obj)} {p : Program} {loose : List Str} {Q : Value → Shared → Prop}

theorem enterRH {env : Env} {outer : List Env} {R : Result → Shared → Prop} {name qual : Str} {params : Arguments} {body : List Stmt} {scope : Scope} {dV kV doc pm cdv ct oc : Value} {an od : Option Addr} {osl : Array (Option Value)} {f : Addr} {args : Args} {binds : List (Str × Value)}
    (B : Below A₀ base outer h₀) (F : Fr h₀ L s.heap m) (X₀ : K.In h₀) (N : News h₀ L s.heap news) (T : TopRead p loose mg mb h₀) (hA : A.frames = some (env :: outer)) (hf : env.frame = some L) (hke : env.scope.kind = .function)
    (ho : K.lookup f = some ⟨oc, od, .func (fnOf name qual params body scope dV kV doc pm an cdv ct), osl⟩) (hcd : codeIn K cdv qual = true) (hroom : A.depth < recursionLimit)
    (hbind : BindsTo s (fnOf name qual params body scope dV kV doc pm an cdv ct) args binds) (hkind : (binds.all fun y => scope.names.lookup y.1 == some .local || scope.names.lookup y.1 == some .cell) = true)
    (hnd : ((cellsFrom 0 scope.names []).map (·.1)).Nodup)
    (h : ∀ g L' h₁ tk cells, Fr h₀ L g m → Fr g L' h₁ (bindL (envOfC qual scope L' f cdv).kindOf binds fun _ => none) → News g L' h₁ (cells ++ news) →
      CellsAre (bindC (envOfC qual scope L' f cdv).kindOf binds fun _ => none) (cellsFrom (L' + 1) scope.names []) cells → Below A base (env :: outer) g → K.In g → TopRead p loose mg mb g → (∀ p ∈ news, p.1 < L') →
      (∀ b o, s.heap.get? b = some o → b ∉ news.map (·.1) → g.get? b = some o) →
      wpAny (model prog w) (A.deeper (envOfC qual scope L' f cdv)) (execs body (envOfC qual scope L' f cdv))
        (fun fl s' => LeaveK h₀ L m g R (match fl with | .ret v => v | _ => .none) s')
        (fun e s' => wpAny (model prog w) (A.deeper (envOfC qual scope L' f cdv)) (leaving (envOfC qual scope L' f cdv) e) (fun _ s'' => R (.error e) s'') (fun e' s'' => R (.error e') s'') s')
        { s with heap := h₁, toks := tk })
    (hco : scope.isCoroutine = false) (hgen : scope.isGenerator = false) (hk : scope.kind = .function) : codeAny (model prog w) A (.call (.ref f) args) R s := by
  obtain ⟨FG, BG, st, lv⟩ := groundX (R := R) B F N hA hf hke
  have kin := X₀.keeps F.keep
  refine codeAny_call_function hroom (kin _ _ ho) rfl hco hgen rfl (codeRec_of kin hcd) (hbind _ _ _ _ ?_)
  refine wpAny_newFunctionEnv_cells hk (kindsX hkind _) fun env' he s' x => ?_
  subst he
  refine ⟨(T.nolimit.keeps F.keep).keeps x.toInCall.keep, codeAny_func ?_⟩
  obtain ⟨h₁, tk, rfl, _⟩ := x.done
  have up := x.toInCall.keep
  obtain ⟨cells, NC, Y⟩ := Cl.news (h₀ := s.heap) (Nat.le_refl _) fun n c hm => ⟨x.cell n c (lookup_of_mem_nodup (cellsFrom_names scope.names 0 (s.heap.objs.size + 1) [] [] rfl ▸ hnd) hm), x.above n c hm⟩
  have NN : News (hideAll s.heap (news.map (·.1))) s.heap.objs.size h₁ (cells ++ news) := fun p hp => by
    rcases List.mem_append.mp hp with hp | hp
    · obtain ⟨c1, c2, c3⟩ := NC p hp
      refine ⟨c1, c2, Option.eq_none_iff_forall_not_mem.mpr fun o q => ?_⟩
      have := of_hideAll _ q
      rw [c3] at this; cases this
    · exact ⟨up _ _ (N p hp).1, Nat.ne_of_lt (Heap.lt_size (N p hp).1), hideAll_none _ (List.mem_map_of_mem hp)⟩
  have X1 : K.In (hideAll s.heap (news.map (·.1))) := X₀.keeps st
  have T1 : TopRead p loose mg mb (hideAll s.heap (news.map (·.1))) := T.keeps st
  exact wpAny_mono (h (hideAll s.heap (news.map (·.1))) s.heap.objs.size h₁ tk cells FG ⟨x.toInCall.ns, fun b o e => up b o (of_hideAll _ e), Nat.le_of_eq (hideAll_size _ _)⟩ NN Y BG X1 T1 (fun p hp => Heap.lt_size (N p hp).1) fun b o e hb => hideAll_get _ e hb) (fun fl s' hl => lv _ _ hl) fun _ _ y => y
end
section
variable {S : Sx} {c : Cx} {env : Env} {σ : St} {n : Nat}
def flV : Fl → V
  | .ret v => v
  | .next => .old .none
def retOf : Flow → Value
  | .ret v => v
  | _ => .none
def fnK (σ : St) (P : V → St → Prop) : Fl → St → Prop := fun fl σ' => P (flV fl) { σ with ls := σ'.ls }
theorem fn_ret {σ σ' : St} {P : V → St → Prop} {v : V} (h : P v { σ with ls := σ'.ls }) : fnK σ P (.ret v) σ' := h
structure FnOk (K : Frag) (f : Addr) (qual : Str) (names : List Str) (body : List Stmt) (scope : Scope) (cdv : Value) : Prop where
  ex : ∃ (name : Str) (params : Arguments) (dV kV doc pm ct oc : Value) (an od : Option Addr) (osl : Array (Option Value)), K.lookup f = some ⟨oc, od, .func (fnOf name qual params body scope dV kV doc pm an cdv ct), osl⟩ ∧
    ∀ xs : List Value, xs.length = names.length → bindArgs (fnOf name qual params body scope dV kV doc pm an cdv ct) ⟨xs, []⟩ = pure (names.zip xs)
  hcd : codeIn K cdv qual = true
  hnd : names.Nodup
  hk : (names.all fun x => (scope.names.lookup x == some .local && !((cellsFrom 0 scope.names []).lookup x).isSome) || (scope.names.lookup x == some .cell && ((cellsFrom 0 scope.names []).lookup x).isSome)) = true
  hcn : ((cellsFrom 0 scope.names []).map (·.1)).Nodup
  hco : scope.isCoroutine = false
  hgen : scope.isGenerator = false
  hkf : scope.kind = .function
theorem lookup_mem {α : Type} {x : Str} {v : α} : ∀ {l : List (Str × α)}, l.lookup x = some v → x ∈ l.map (·.1)
  | [], h => by cases h
  | (a, b) :: r, h => by
    rw [List.lookup_cons] at h
    cases q : x == a with
    | true => rw [beq_iff_eq.mp q]; exact .head _
    | false => rw [q] at h; exact .tail _ (lookup_mem h)
theorem call_fn0 (O : Ok S c (n + 1)) {f : Addr} {qual : Str} {names : List Str} {body : List Stmt} {scope : Scope} {cdv : Value} {vs : List V} {P : V → St → Prop} (X : FnOk S.K f qual names body scope cdv) (hl : vs.length = names.length) (hcz : c.fz = false ∨ cellsFrom 0 scope.names [] = [])
    (h : ∀ c' : Cx, c'.fenv = envOfC qual scope c'.L f cdv → c'.fz = c.fz → c'.frz = c.frz → c'.el = false → Ok S c' n → BlS S c' body ⟨names.zip vs, [], σ.ls⟩ (fnK σ P)) :
    CallS S c (.old (.ref f)) vs σ P := fun W x xs hx hxs m s Q r q => by
  cases hx
  obtain ⟨name, params, dV, kV, doc, pm, ct, oc, an, od, osl, ho, hb⟩ := X.ex
  have hlx : xs.length = names.length := by rw [hxs.length, hl]
  have hd := O.hd
  have hu := O.hu
  have nm : (names.zip xs).map (·.1) = names := zip_names hlx
  have cellN : ∀ k : Nat, (cellsFrom k scope.names []).map (·.1) = (cellsFrom 0 scope.names []).map (·.1) := fun k => cellsFrom_names _ _ _ _ _ rfl
  have kinds : ∀ x ∈ names, ∀ k : Nat, (scope.names.lookup x = some .local ∧ (cellsFrom k scope.names []).lookup x = none) ∨ (scope.names.lookup x = some .cell ∧ ((cellsFrom k scope.names []).lookup x).isSome = true) := fun x hx k => by
    have := List.all_eq_true.mp X.hk x hx
    rw [← lookup_iff_names (cellN k)] at this
    simp only [Bool.or_eq_true, Bool.and_eq_true, beq_iff_eq, Bool.not_eq_true', Option.isSome_eq_false_iff, Option.isNone_iff_eq_none] at this
    exact this
  refine wpAny_call (enterRC O.B r.F O.X r.all O.T O.hA O.hf O.hke ho X.hcd (by omega) (BindsTo.of_eq (hb xs hlx)) (List.all_eq_true.mpr fun y hy => ?_) X.hcn (fun g L' h₁ tk cells FG F' N' Y B' X' T' lo => ?_) X.hco X.hgen X.hkf)
  · have hm : y.1 ∈ names := by rw [← nm]; exact List.mem_map_of_mem hy
    rcases kinds y.1 hm 0 with ⟨h1, _⟩ | ⟨h1, _⟩ <;> simp [h1]
  have hLc : ∀ x ∈ cellsFrom (L' + 1) scope.names [], L' < x.2 := fun x hx => cellsFrom_ge scope.names (L' + 1) (L' + 1) [] (Nat.le_refl _) (fun _ h => nomatch h) x hx
  have hcA : ∀ p ∈ cells, L' < p.1 := fun p hp => by
    obtain ⟨⟨x, hx, e⟩, _⟩ := CellsAre.addr Y p hp
    rw [← e]; exact hLc x hx
  refine wpAny_mono (E := fun _ _ => False) (Q := fun fl s' => LeaveK c.h₀ c.L m g (fun r s' => match r with | .ok (.ret v) => Q v s' | .ok _ => False | .error e => False) (retOf fl) s') ?_ (fun fl _ z => by cases fl <;> exact z) (fun _ _ z => z.elim)
  have O' : Ok S ⟨c.A.deeper (envOfC qual scope L' f cdv), c.A, c.base, g, c.fenv :: c.outer, envOfC qual scope L' f cdv, L', c.C, c.fz, c.frz, c.os, c.gens, c.drawn, false, c.mm⟩ n :=
    ⟨B', X', T', O.M, by show (c.A.deeper _).frames = _; unfold Around.deeper; rw [O.hA]; rfl, rfl, X.hkf, O.hh, by show c.A.depth + 1 + n < _; omega, by show c.A.units + 3 + 20 * n < _; omega, rfl, rfl, rfl, cellsFrom_nodup _ _ _ .nil (fun _ h => nomatch h), O.old.at fun o e => FG.keep _ o e⟩
  have l1 : Le [] W ⟨cells ++ W.news, W.al⟩ := ⟨fun p hp _ => List.mem_append_right _ hp, fun _ _ h => h, fun _ h => .inl h, fun p hp => ⟨p, List.mem_append_right _ hp, rfl⟩⟩
  refine h ⟨c.A.deeper (envOfC qual scope L' f cdv), c.A, c.base, g, c.fenv :: c.outer, envOfC qual scope L' f cdv, L', c.C, c.fz, c.frz, c.os, c.gens, c.drawn, false, c.mm⟩ rfl rfl rfl rfl O' ⟨cells ++ W.news, W.al⟩ _ _ _
    ⟨F', fun p hp => ?_, fun y v e => ?_, fun y e => ?_, fun _ _ => rfl, fun y v e => (nomatch e), fun k ws e => ?_, r.len, r.nd, fun p hp => N' p (List.mem_append_right _ (List.mem_append_left _ hp)), fun hz p hp => ?_, fun hz q hq p hp => (List.mem_append.mp hp).elim (fun hp => Nat.ne_of_gt (Nat.lt_trans (lo q (List.mem_append_left _ hq)) (hcA p hp))) (r.fx hz q hq p), r.calm, (fun h => nomatch h), fun hz t ht => ?_, r.gens, r.os⟩ fun fl b σ2 W2 m2 s2 hP r2 g2 e2 => ?_
  · rcases List.mem_append.mp hp with hp | hp
    · exact N' p (List.mem_append_left _ hp)
    · exact N' p (List.mem_append_right _ (List.mem_append_right _ hp))
  · obtain ⟨u, h1, h2⟩ := zip_get hxs e
    refine ⟨u, h2.mono l1, ?_⟩
    have hm : y ∈ names := by rw [← nm]; exact lookup_mem h1
    have hnd' : ((names.zip xs).map (·.1)).Nodup := by rw [nm]; exact X.hnd
    rcases kinds y hm (L' + 1) with ⟨k1, k2⟩ | ⟨k1, k2⟩
    · have k2' : (envOfC qual scope L' f cdv).cells.lookup y = none := k2
      unfold LocAt
      simp only [k2']
      exact bindL_get (show (envOfC qual scope L' f cdv).kindOf y = _ from k1) hnd' h1
    · obtain ⟨a, ha⟩ := Option.isSome_iff_exists.mp k2
      have ha' : (envOfC qual scope L' f cdv).cells.lookup y = some a := ha
      unfold LocAt
      simp only [ha']
      obtain ⟨o, o1, o2⟩ := CellsAre.at Y ha
      refine ⟨o, List.mem_append_left _ o1, ?_⟩
      rw [o2, bindC_get (show (envOfC qual scope L' f cdv).kindOf y ≠ _ by show scope.names.lookup y ≠ _; rw [k1]; decide) hnd' h1]
  · obtain ⟨o, o1, o2⟩ := CellsAre.mem Y y e
    exact ⟨o, _, List.mem_append_left _ o1, o2⟩
  · obtain ⟨a, ys, k', h1, h2, h3⟩ := r.ls k ws e
    exact ⟨a, ys, k', h1, List.mem_append_right _ h2, h3.mono l1⟩
  · obtain ⟨f1, f2, f3⟩ := r.fd hz p hp
    refine ⟨f1, f2, fun x hx => ?_⟩
    have a1 := hLc x hx
    have a2 := lo p (List.mem_append_left _ hp)
    exact Nat.ne_of_gt (Nat.lt_trans a2 a1)
  · obtain ⟨ps, h1, h2⟩ := r.tabs hz t ht
    exact ⟨ps, List.mem_append_right _ h1, h2⟩
  · -- back
    have own' : ∀ p ∈ W.news, p.1 ∉ (envOfC qual scope L' f cdv).cells.map (·.2) := fun p hp hq => by
      obtain ⟨x, hx, e⟩ := List.mem_map.mp hq
      have a1 := hLc x hx
      have a2 := lo p (List.mem_append_right _ hp)
      rw [e] at a1
      exact Nat.lt_irrefl _ (Nat.lt_trans a1 a2)
    have kk : ∀ p ∈ W.news, Keep W.al [] p → p ∈ W2.news := fun p hp k => g2.le.k p (List.mem_append_right _ hp) ⟨k.l, k.t, fun _ => own' p hp⟩
    have le2 : Le [] W W2 := ⟨kk, g2.le.al, fun a ha => (g2.le.an a ha).imp id fun z p hp => z p (List.mem_append_right _ hp), fun p hp => g2.le.ad p (List.mem_append_right _ hp)⟩
    have gr : Gr c [] W W2 := ⟨le2, fun hz => by
      obtain ⟨a1, new, a2, a3⟩ := g2.fz hz
      have hcells : cells = [] := by
        rcases hcz with hcz | hcz
        · rw [hz] at hcz; cases hcz
        · have : cellsFrom (L' + 1) scope.names [] = [] := by
            have := cellN (L' + 1)
            rw [hcz, List.map_nil, List.map_eq_nil_iff] at this
            exact this
          rw [this] at Y
          cases Y
          rfl
      subst hcells
      exact ⟨a1, new, a2, a3⟩⟩
    have hb' : ∃ bv, retOf b = bv ∧ VR W2 (flV fl) bv := by
      cases fl with
      | next => have e2' : b = .next := e2; subst e2'; exact ⟨_, rfl, .old⟩
      | ret v => obtain ⟨y, e2', hy⟩ := e2; subst e2'; exact ⟨_, rfl, hy⟩
    obtain ⟨bv, eb, vb⟩ := hb'
    have fin : ∀ (F0 : Fr c.h₀ c.L s2.heap m), News c.h₀ c.L s2.heap (c.frz ++ W2.news) → Q bv s2 := fun F0 N0 => by
      refine q _ bv { σ with ls := σ2.ls } W2 m s2 hP ⟨F0, fun p hp => N0 p (List.mem_append_right _ hp), fun y v e => ?_, fun y e => ?_, r.cvz, fun y v e => ?_, r2.ls, r2.len, r2.nd, fun p hp => N0 p (List.mem_append_left _ hp), fun hz p hp => ?_, r2.fx, r2.calm, r.mfix, r2.tabs, r2.gens, r2.os⟩ gr vb
      · obtain ⟨u, h1, h2⟩ := r.loc y v e
        exact ⟨u, h1.mono le2, h2.mono fun p hp hc => kk p hp ⟨fun hl => by
          have : isCel p.2 = true := hc
          unfold isCel at this; unfold lsB at hl
          intro hm
          obtain ⟨i, hi, e⟩ := List.getElem_of_mem hm
          have hl' : i < σ.ls.length := by rw [← r.len]; exact hi
          obtain ⟨a, ys, k', j1, j2, _⟩ := r.ls i _ (List.getElem?_eq_getElem hl')
          rw [List.getElem?_eq_getElem hi, e] at j1
          cases j1
          have z1 := (r.N _ j2).1
          have z2 := (r.N _ hp).1
          rw [z2] at z1
          have := Option.some.inj z1
          rw [this] at hc
          exact Bool.noConfusion (show false = true from hc), by
          unfold tabB; unfold isCel at hc; split
          · rename_i z; rw [z] at hc; cases hc
          · rfl, fun _ h => nomatch h⟩⟩
      · obtain ⟨o, v, h1, h2⟩ := r.cel y e
        refine ⟨o, v, kk _ h1 ⟨fun hl hm => ?_, ?_, fun _ h => nomatch h⟩, h2⟩
        · obtain ⟨i, hi, e⟩ := List.getElem_of_mem hm
          have hl' : i < σ.ls.length := by rw [← r.len]; exact hi
          obtain ⟨a', ys, k', j1, j2, _⟩ := r.ls i _ (List.getElem?_eq_getElem hl')
          rw [List.getElem?_eq_getElem hi, e] at j1
          cases j1
          have z1 := (r.N _ j2).1
          have z2 := (r.N _ h1).1
          rw [z2] at z1
          have z3 : o = _ := Option.some.inj z1
          rw [z3] at h2
          cases h2
        · simp [tabB, h2]
      · obtain ⟨u, oC, mC, h1, h2⟩ := r.cv y v e
        exact ⟨u, oC, mC, h1.mono le2, h2⟩
      · exact ⟨(r2.fd hz p hp).1, (r2.fd hz p hp).2.1, (r.fd hz p hp).2.2⟩
    show LeaveK c.h₀ c.L m g _ (retOf b) s2
    rw [eb]
    exact ⟨L', m2, c.frz ++ W2.news, r2.F, r2.all, fun F0 N0 => fin F0 N0⟩
theorem call_fnH (O : Ok S c (n + 1)) (hfz : c.fz = false) {f : Addr} {qual : Str} {names : List Str} {body : List Stmt} {scope : Scope} {cdv : Value} {vs : List V} {P : V → St → Prop} (X : FnOk S.K f qual names body scope cdv) (hl : vs.length = names.length)
    (h : ∀ c' : Cx, c'.fenv = envOfC qual scope c'.L f cdv → c'.fz = c.fz → c'.frz = [] → c'.el = false → Ok S c' n → BlS S c' body ⟨names.zip vs, [], σ.ls⟩ (fnK σ P)) :
    CallS S c (.old (.ref f)) vs σ P := fun W x xs hx hxs m s Q r q => by
  cases hx
  obtain ⟨name, params, dV, kV, doc, pm, ct, oc, an, od, osl, ho, hb⟩ := X.ex
  have hlx : xs.length = names.length := by rw [hxs.length, hl]
  have hd := O.hd
  have hu := O.hu
  have nm : (names.zip xs).map (·.1) = names := zip_names hlx
  have cellN : ∀ k : Nat, (cellsFrom k scope.names []).map (·.1) = (cellsFrom 0 scope.names []).map (·.1) := fun k => cellsFrom_names _ _ _ _ _ rfl
  have kinds : ∀ x ∈ names, ∀ k : Nat, (scope.names.lookup x = some .local ∧ (cellsFrom k scope.names []).lookup x = none) ∨ (scope.names.lookup x = some .cell ∧ ((cellsFrom k scope.names []).lookup x).isSome = true) := fun x hx k => by
    have := List.all_eq_true.mp X.hk x hx
    rw [← lookup_iff_names (cellN k)] at this
    simp only [Bool.or_eq_true, Bool.and_eq_true, beq_iff_eq, Bool.not_eq_true', Option.isSome_eq_false_iff, Option.isNone_iff_eq_none] at this
    exact this
  refine wpAny_call (enterRH O.B r.F O.X r.N O.T O.hA O.hf O.hke ho X.hcd (by omega) (BindsTo.of_eq (hb xs hlx)) (List.all_eq_true.mpr fun y hy => ?_) X.hcn (fun g L' h₁ tk cells FG F' N' Y B' X' T' lo gh => ?_) X.hco X.hgen X.hkf)
  · have hm : y.1 ∈ names := by rw [← nm]; exact List.mem_map_of_mem hy
    rcases kinds y.1 hm 0 with ⟨h1, _⟩ | ⟨h1, _⟩ <;> simp [h1]
  have hLc : ∀ x ∈ cellsFrom (L' + 1) scope.names [], L' < x.2 := fun x hx => cellsFrom_ge scope.names (L' + 1) (L' + 1) [] (Nat.le_refl _) (fun _ h => nomatch h) x hx
  have hcA : ∀ p ∈ cells, L' < p.1 := fun p hp => by
    obtain ⟨⟨x, hx, e⟩, _⟩ := CellsAre.addr Y p hp
    rw [← e]; exact hLc x hx
  refine wpAny_mono (E := fun _ _ => False) (Q := fun fl s' => LeaveK c.h₀ c.L m g (fun r s' => match r with | .ok (.ret v) => Q v s' | .ok _ => False | .error e => False) (retOf fl) s') ?_ (fun fl _ z => by cases fl <;> exact z) (fun _ _ z => z.elim)
  have O' : Ok S ⟨c.A.deeper (envOfC qual scope L' f cdv), c.A, c.base, g, c.fenv :: c.outer, envOfC qual scope L' f cdv, L', c.C, c.fz, [], c.os, c.gens, c.drawn, false, c.mm⟩ n :=
    ⟨B', X', T', O.M, by show (c.A.deeper _).frames = _; unfold Around.deeper; rw [O.hA]; rfl, rfl, X.hkf, O.hh, by show c.A.depth + 1 + n < _; omega, by show c.A.units + 3 + 20 * n < _; omega, rfl, rfl, rfl, cellsFrom_nodup _ _ _ .nil (fun _ h => nomatch h), O.old.at fun o e => FG.keep _ o e⟩
  have l1 : Le [] W ⟨cells ++ W.news, W.al⟩ := ⟨fun p hp _ => List.mem_append_right _ hp, fun _ _ h => h, fun _ h => .inl h, fun p hp => ⟨p, List.mem_append_right _ hp, rfl⟩⟩
  refine h ⟨c.A.deeper (envOfC qual scope L' f cdv), c.A, c.base, g, c.fenv :: c.outer, envOfC qual scope L' f cdv, L', c.C, c.fz, [], c.os, c.gens, c.drawn, false, c.mm⟩ rfl rfl rfl rfl O' ⟨cells ++ W.news, W.al⟩ _ _ _
    ⟨F', fun p hp => ?_, fun y v e => ?_, fun y e => ?_, fun _ _ => rfl, fun y v e => (nomatch e), fun k ws e => ?_, r.len, r.nd, fun p hp => (nomatch hp), fun hz p hp => (nomatch hp), fun hz q hq => (nomatch hq), r.calm, (fun h => nomatch h), fun hz t ht => ?_, r.gens, r.os⟩ fun fl b σ2 W2 m2 s2 hP r2 g2 e2 => ?_
  · rcases List.mem_append.mp hp with hp | hp
    · exact N' p (List.mem_append_left _ hp)
    · exact N' p (List.mem_append_right _ hp)
  · obtain ⟨u, h1, h2⟩ := zip_get hxs e
    refine ⟨u, h2.mono l1, ?_⟩
    have hm : y ∈ names := by rw [← nm]; exact lookup_mem h1
    have hnd' : ((names.zip xs).map (·.1)).Nodup := by rw [nm]; exact X.hnd
    rcases kinds y hm (L' + 1) with ⟨k1, k2⟩ | ⟨k1, k2⟩
    · have k2' : (envOfC qual scope L' f cdv).cells.lookup y = none := k2
      unfold LocAt
      simp only [k2']
      exact bindL_get (show (envOfC qual scope L' f cdv).kindOf y = _ from k1) hnd' h1
    · obtain ⟨a, ha⟩ := Option.isSome_iff_exists.mp k2
      have ha' : (envOfC qual scope L' f cdv).cells.lookup y = some a := ha
      unfold LocAt
      simp only [ha']
      obtain ⟨o, o1, o2⟩ := CellsAre.at Y ha
      refine ⟨o, List.mem_append_left _ o1, ?_⟩
      rw [o2, bindC_get (show (envOfC qual scope L' f cdv).kindOf y ≠ _ by show scope.names.lookup y ≠ _; rw [k1]; decide) hnd' h1]
  · obtain ⟨o, o1, o2⟩ := CellsAre.mem Y y e
    exact ⟨o, _, List.mem_append_left _ o1, o2⟩
  · obtain ⟨a, ys, k', h1, h2, h3⟩ := r.ls k ws e
    exact ⟨a, ys, k', h1, List.mem_append_right _ h2, h3.mono l1⟩
  · obtain ⟨ps, h1, h2⟩ := r.tabs hz t ht
    exact ⟨ps, List.mem_append_right _ h1, h2⟩
  · -- back
    have own' : ∀ p ∈ W.news, p.1 ∉ (envOfC qual scope L' f cdv).cells.map (·.2) := fun p hp hq => by
      obtain ⟨x, hx, e⟩ := List.mem_map.mp hq
      have a1 := hLc x hx
      have a2 := lo p hp
      rw [e] at a1
      exact Nat.lt_irrefl _ (Nat.lt_trans a1 a2)
    have kk : ∀ p ∈ W.news, Keep W.al [] p → p ∈ W2.news := fun p hp k => g2.le.k p (List.mem_append_right _ hp) ⟨k.l, k.t, fun _ => own' p hp⟩
    have le2 : Le [] W W2 := ⟨kk, g2.le.al, fun a ha => (g2.le.an a ha).imp id fun z p hp => z p (List.mem_append_right _ hp), fun p hp => g2.le.ad p (List.mem_append_right _ hp)⟩
    have gr : Gr c [] W W2 := ⟨le2, fun hz => by rw [hfz] at hz; cases hz⟩
    have hb' : ∃ bv, retOf b = bv ∧ VR W2 (flV fl) bv := by
      cases fl with
      | next => have e2' : b = .next := e2; subst e2'; exact ⟨_, rfl, .old⟩
      | ret v => obtain ⟨y, e2', hy⟩ := e2; subst e2'; exact ⟨_, rfl, hy⟩
    obtain ⟨bv, eb, vb⟩ := hb'
    have frG : ∀ q ∈ c.frz, g.get? q.1 = some q.2 := fun q hq => gh _ _ (r.fz q hq).1 fun hm => by
      obtain ⟨p, hp, e⟩ := List.mem_map.mp hm
      exact r.fx hfz q hq p hp e
    have fx2 : ∀ q ∈ c.frz, ∀ p ∈ W2.news, p.1 ≠ q.1 := fun q hq p hp e => by
      have h1 := (r2.N p hp).2.2
      rw [e, frG q hq] at h1; cases h1
    have al2 : ∀ a ∈ W2.al, ∃ p ∈ W2.news, p.1 = a := fun a ha => by
      obtain ⟨i, hi, e⟩ := List.getElem_of_mem ha
      have hl' : i < σ2.ls.length := by rw [← r2.len]; exact hi
      obtain ⟨a', ys, k', j1, j2, _⟩ := r2.ls i _ (List.getElem?_eq_getElem hl')
      rw [List.getElem?_eq_getElem hi, e] at j1
      cases j1
      exact ⟨_, j2, rfl⟩
    have frN : ∀ q ∈ c.frz, s2.heap.get? q.1 = some q.2 := fun q hq => r2.F.keep _ _ (frG q hq)
    have fin : ∀ (F0 : Fr c.h₀ c.L s2.heap m), News c.h₀ c.L s2.heap W2.news → Q bv s2 := fun F0 N0 => by
      refine q _ bv { σ with ls := σ2.ls } W2 m s2 hP ⟨F0, N0, fun y v e => ?_, fun y e => ?_, r.cvz, fun y v e => ?_, r2.ls, r2.len, r2.nd, fun p hp => ⟨frN p hp, (r.fz p hp).2⟩, fun hz p hp => ?_, fun _ => fx2, r2.calm, r.mfix, r2.tabs, r2.gens, r2.os⟩ gr vb
      · obtain ⟨u, h1, h2⟩ := r.loc y v e
        exact ⟨u, h1.mono le2, h2.mono fun p hp hc => kk p hp ⟨fun hl => by
          have : isCel p.2 = true := hc
          unfold isCel at this; unfold lsB at hl
          intro hm
          obtain ⟨i, hi, e⟩ := List.getElem_of_mem hm
          have hl' : i < σ.ls.length := by rw [← r.len]; exact hi
          obtain ⟨a, ys, k', j1, j2, _⟩ := r.ls i _ (List.getElem?_eq_getElem hl')
          rw [List.getElem?_eq_getElem hi, e] at j1
          cases j1
          have z1 := (r.N _ j2).1
          have z2 := (r.N _ hp).1
          rw [z2] at z1
          have := Option.some.inj z1
          rw [this] at hc
          exact Bool.noConfusion (show false = true from hc), by
          unfold tabB; unfold isCel at hc; split
          · rename_i z; rw [z] at hc; cases hc
          · rfl, fun _ h => nomatch h⟩⟩
      · obtain ⟨o, v, h1, h2⟩ := r.cel y e
        refine ⟨o, v, kk _ h1 ⟨fun hl hm => ?_, ?_, fun _ h => nomatch h⟩, h2⟩
        · obtain ⟨i, hi, e⟩ := List.getElem_of_mem hm
          have hl' : i < σ.ls.length := by rw [← r.len]; exact hi
          obtain ⟨a', ys, k', j1, j2, _⟩ := r.ls i _ (List.getElem?_eq_getElem hl')
          rw [List.getElem?_eq_getElem hi, e] at j1
          cases j1
          have z1 := (r.N _ j2).1
          have z2 := (r.N _ h1).1
          rw [z2] at z1
          have z3 : o = _ := Option.some.inj z1
          rw [z3] at h2
          cases h2
        · simp [tabB, h2]
      · obtain ⟨u, oC, mC, h1, h2⟩ := r.cv y v e
        exact ⟨u, oC, mC, h1.mono le2, h2⟩
      · exact ⟨fun hm => (let ⟨z, hz2, e⟩ := al2 _ hm; fx2 p hp z hz2 e), (r.fd hz p hp).2.1, (r.fd hz p hp).2.2⟩
    show LeaveK c.h₀ c.L m g _ (retOf b) s2
    rw [eb]
    exact ⟨L', m2, W2.news, r2.F, r2.N, fun F0 N0 => fin F0 N0⟩
theorem call_fn (O : Ok S c (n + 1)) {f : Addr} {qual : Str} {names : List Str} {body : List Stmt} {scope : Scope} {cdv : Value} {vs : List V} {P : V → St → Prop} {fr : List (Addr × Obj)} (X : FnOk S.K f qual names body scope cdv) (hl : vs.length = names.length) (hcz : c.fz = false ∨ cellsFrom 0 scope.names [] = [])
    (hfr : (c.fz = false ∧ fr = []) ∨ c.frz = fr)
    (h : ∀ c' : Cx, c'.fenv = envOfC qual scope c'.L f cdv → c'.fz = c.fz → c'.frz = fr → c'.el = false → Ok S c' n → BlS S c' body ⟨names.zip vs, [], σ.ls⟩ (fnK σ P)) :
    CallS S c (.old (.ref f)) vs σ P := by
  rcases hfr with ⟨hz, rfl⟩ | rfl
  · exact call_fnH O hz X hl h
  · exact call_fn0 O X hl hcz h
end
end Mine

end

section
set_option maxRecDepth 100000
set_option autoImplicit false
set_option linter.unusedVariables false
namespace Mine
open PySem PySem.W PyProof.Rows PySem.Calls PyProof.Rows.LCg
section
variable {S : Sx} {c : Cx} {env : Env} {σ : St} {n : Nat}
def WhS (S : Sx) (c : Cx) (test : Expr) (body : List Stmt) (σ : St) (P : Fl → St → Prop) : Prop := ∀ (W : Wd) (m : Str → Option Value) (s : Shared) (Q : Flow → Shared → Prop), R S c σ W m s →
  (∀ g b σ' W' m' s', P g σ' → R S c σ' W' m' s' → Gr c (ownOf c) W W' → FlR W' g b → Q b s') → ∀ k, WhlRest S.prog S.w c.A (fun _ _ => False) c.fenv test body [] Q k s
def whK (S : Sx) (c : Cx) (test : Expr) (body : List Stmt) (P : Fl → St → Prop) : Fl → St → Prop
  | .next, σ => WhS S c test body σ P
  | .ret v, σ => P (.ret v) σ
theorem wh_next {test : Expr} {body : List Stmt} {P : Fl → St → Prop} (h : WhS S c test body σ P) : whK S c test body P .next σ := h
theorem wh_turn {test : Expr} {body : List Stmt} {P : Fl → St → Prop} (h : TestS S c c.fenv test σ fun b σ₁ => if b = true then BlS S c body σ₁ (whK S c test body P) else P .next σ₁) : WhS S c test body σ P := fun W m s Q r q k => by
  refine whl_turn (k := k) PassesOwn.never (h W m s _ r fun b b' σ₁ W₁ m₁ s₁ h₁ r₁ l₁ e₁ => ?_)
  subst e₁
  cases b' with
  | false => exact wpAny_execs_nil (q .next .next σ₁ W₁ m₁ s₁ h₁ r₁ l₁.own rfl)
  | true =>
    refine h₁ W₁ m₁ s₁ _ r₁ fun fl b σ₂ W₂ m₂ s₂ h₂ r₂ l₂ e₂ => ?_
    cases fl with
    | next =>
      have e2 : b = .next := e₂
      subst e2
      exact h₂ W₂ m₂ s₂ Q r₂ (fun g b' σ' W' m' s' p r3 l3 e => q g b' σ' W' m' s' p r3 ((l₁.own.trans l₂).trans l3) e) k
    | ret v =>
      obtain ⟨y, e2, hy⟩ := e₂
      subst e2
      exact q _ _ σ₂ W₂ m₂ s₂ h₂ r₂ (l₁.own.trans l₂) ⟨y, rfl, hy⟩
theorem st_while {test : Expr} {body : List Stmt} {pos : Pos} {P : Fl → St → Prop} (h : WhS S c test body σ P) : StS S c (.While test body [] pos) σ P := fun W m s Q r q =>
  whl_start 0 (h W m s Q r q 0)
inductive It where
  | val (v : V)
  | pair (v w : V)
def ItR (W : Wd) (h : Heap) : It → Value → Prop
  | .val v, x => VR W v x
  | .pair v w, x => ∃ T x1 x2, x = .ref T ∧ h.IsTuple T #[x1, x2] ∧ VR W v x1 ∧ VR W w x2
theorem ItR.mono {own : List Addr} {W W' : Wd} {h : Heap} (l : Le own W W') : ∀ {e : It} {x : Value}, ItR W h e x → ItR W' h e x
  | .val v, x, r => VR.mono l r
  | .pair v w, x, ⟨T, x1, x2, e, t, a, b⟩ => ⟨T, x1, x2, e, t, a.mono l, b.mono l⟩
structure Sr (S : Sx) (c : Cx) (md : Bool) (target : Expr) (items : List It) (W : Wd) (h : Heap) (I : Addr) (fp wr : List Addr) (P Md : Nat → Value → Heap → Prop) (St : Nat → Heap → Prop) : Prop where
  T : KTurns S.prog S.w c.A target I fp wr items.length P Md St
  self : ∀ (s : Shared) (Q : Value → Shared → Prop) (E : Value → Shared → Prop), St 0 s.heap → Q (.ref I) s → wpAny (model S.prog S.w) c.A (pyIter (.ref I)) Q E s
  st : St 0 h
  lt : ∀ b ∈ fp, b < h.objs.size
  L : c.L ∉ fp
  wr0 : ∀ b ∈ wr, c.h₀.get? b = none
  nw : ∀ p ∈ c.frz ++ W.news, p.1 ∉ wr
  nt : c.fz = false → ∀ t ∈ S.tabs, t.1 ∉ wr
  ex : ∀ i h, St i h → ∀ b ∈ wr, ∃ o, h.get? b = some o
  src : md = true → ∀ b ∈ fp, b ∈ wr ∨ ∃ o, (b, o) ∈ W.news ∧ ∀ own, Keep W.al own (b, o)
  it : ∀ i v h, i < items.length → P i v h → ∃ e, items[i]? = some e ∧ ItR W h e v
def PySrc (S : Sx) (c : Cx) (md : Bool) (target : Expr) (items : List It) (W : Wd) (xv : Value) (s : Shared) : Prop := ∀ (E Q : Value → Shared → Prop),
  (∀ h₂ I fp wr P Md St, (∀ b o, s.heap.get? b = some o → h₂.get? b = some o) → Sr S c md target items W h₂ I fp wr P Md St → Q (.ref I) { s with heap := h₂ }) → wpAny (model S.prog S.w) c.A (pyIter xv) Q E s
def IteS (S : Sx) (c : Cx) (md : Bool) (env : Env) (iter target : Expr) (σ : St) (K : List It → St → Prop) : Prop := ∀ (W : Wd) (m : Str → Option Value) (s : Shared) (Q : Value → Shared → Prop), R S c σ W m s →
  (∀ items xv σ' W' m' s', K items σ' → R S c σ' W' m' s' → Gr c [] W W' → PySrc S c md target items W' xv s' → Q xv s') → wpAny (model S.prog S.w) c.A (eval iter env) Q (fun _ _ => False) s
def AsgI (S : Sx) (c : Cx) (t : Expr) (it : It) (σ : St) (P : Unit → St → Prop) : Prop := ∀ (W : Wd) (x : Value) (m : Str → Option Value) (s : Shared) (Q : Unit → Shared → Prop), R S c σ W m s → ItR W s.heap it x →
  (∀ g b σ' W' m' s', P g σ' → R S c σ' W' m' s' → Gr c (ownOf c) W W' → Q b s') → wpAny (model S.prog S.w) c.A (assign t c.fenv x) Q (fun _ _ => False) s
theorem asgi_val {t : Expr} {v : V} {P : Unit → St → Prop} (h : AsgS S c t v σ P) : AsgI S c t (.val v) σ P := fun W x m s Q r i q => h W x i m s Q r fun g b σ' W' m' s' p r' l _ => q g b σ' W' m' s' p r' l
theorem asgi_pair (O : Ok S c n) {t1 t2 : Expr} {k : Nat} {p : Pos} {v w : V} {P : Unit → St → Prop} (he : (assignEach [t1, t2] c.fenv).map (·.2) = [assign t1 c.fenv, assign t2 c.fenv]) (hl : (assignEach [t1, t2] c.fenv).length = 2) (hs : (assignEach [t1, t2] c.fenv).findIdx? (·.1) = none)
    (h : AllA S c [t1, t2] [v, w] σ P) : AsgI S c (.Tuple [t1, t2] k p) (.pair v w) σ P := fun W x m s Q r i q => by
  obtain ⟨T, x1, x2, rfl, hT, h1, h2⟩ := i
  exact asg_pair O he hl hs h h1 h2 r hT fun g b σ' W' m' s' p r' l _ => q g b σ' W' m' s' p r' l
def LoopS (S : Sx) (c : Cx) (n : Nat) (target : Expr) (body : List Stmt) : List It → St → (Fl → St → Prop) → Prop
  | [], σ, P => P .next σ
  | it :: r, σ, P => ∀ c' : Cx, c'.fenv = c.fenv → c'.fz = c.fz → c'.el = c.el → Ok S c' n → AsgI S c' target it σ fun _ σ₁ => BlS S c' body σ₁ fun fl σ₂ => match fl with
    | .next => LoopS S c n target body r σ₂ P
    | .ret v => P (.ret v) σ₂
def lpK (S : Sx) (c : Cx) (n : Nat) (target : Expr) (body : List Stmt) (r : List It) (P : Fl → St → Prop) : Fl → St → Prop
  | .next, σ => LoopS S c n target body r σ P
  | .ret v, σ => P (.ret v) σ
theorem lp_next {target : Expr} {body : List Stmt} {r : List It} {P : Fl → St → Prop} (h : LoopS S c n target body r σ P) : lpK S c n target body r P .next σ := h
theorem lp_nil {target : Expr} {body : List Stmt} {P : Fl → St → Prop} (h : P .next σ) : LoopS S c n target body [] σ P := h
theorem lp_cons {target : Expr} {body : List Stmt} {it : It} {r : List It} {P : Fl → St → Prop} (h : ∀ c' : Cx, c'.fenv = c.fenv → c'.fz = c.fz → c'.el = c.el → Ok S c' n → AsgI S c' target it σ fun _ σ₁ => BlS S c' body σ₁ (lpK S c n target body r P)) : LoopS S c n target body (it :: r) σ P := fun c' a b d e => by
  have := h c' a b d e
  exact fun W x m s Q r i q => this W x m s Q r i fun g b σ' W' m' s' p => q g b σ' W' m' s' fun W m s Q r q => p W m s Q r fun g b σ' W' m' s' p => q g b σ' W' m' s' (by cases g <;> exact p)
theorem R.off {W : Wd} {m : Str → Option Value} {s : Shared} {h' : Heap} {tk : Nat} {wr : List Addr} (r : R S c σ W m s) (k : ∀ b o, b ∉ wr → s.heap.get? b = some o → h'.get? b = some o) (hL : c.L ∉ wr) (h0 : ∀ b ∈ wr, c.h₀.get? b = none) (hn : ∀ p ∈ c.frz ++ W.news, p.1 ∉ wr) : R S c σ W m { s with heap := h', toks := tk } :=
  ⟨⟨r.F.ns.at' fun o e => k _ o hL e, fun b o e => k b o (fun h => by rw [h0 b h] at e; cases e) (r.F.keep b o e), r.F.above⟩, fun p hp => ⟨k _ _ (hn p (List.mem_append_right _ hp)) (r.N p hp).1, (r.N p hp).2⟩, r.loc, r.cel, r.cvz, r.cv, r.ls, r.len, r.nd,
    fun p hp => ⟨k _ _ (hn p (List.mem_append_left _ hp)) (r.fz p hp).1, (r.fz p hp).2⟩, r.fd, r.fx, r.calm, r.mfix, r.tabs, r.gens, r.os⟩
theorem st_for (O : Ok S c n) (hfz : c.fz = false) (hel : c.el = false) {target iter : Expr} {body : List Stmt} {pos : Pos} {P : Fl → St → Prop} (hs : ∀ x, foldedSetIterable iter c.fenv x = pure x)
    (h : IteS S c true c.fenv iter target σ fun items σ₁ => LoopS S c n target body items σ₁ P) : StS S c (.For target iter body [] pos) σ P := fun W m s Q r q => by
  refine wpAny_For (h W m s _ r fun items xv σ₁ W₁ m₁ s₁ h₁ r₁ l₁ z₁ => z₁ _ _ fun h₂ I fp wr P' Md St up X => ?_) hs
  have hLw : c.L ∉ wr := fun h => X.L (X.T.sub _ h)
  refine codeAny_forLoop_any (fun k s' => ∃ i σi Wi mi, St i s'.heap ∧ R S c σi Wi mi s' ∧ (∀ p ∈ Wi.news, p.1 ∉ wr) ∧ (∀ b ∈ wr, b ∉ Wi.al) ∧ LoopS S c n target body (items.drop i) σi P ∧ Gr c (ownOf c) W₁ Wi ∧ i ≤ items.length ∧ k = items.length + 1 - i) ?_ (items.length + 1)
    ⟨0, σ₁, W₁, m₁, X.st, r₁.keep (tk := s₁.toks) up, fun p hp => X.nw p (List.mem_append_right _ hp), fun b hb hm => ?_, by rw [List.drop_zero]; exact h₁, .refl, Nat.zero_le _, rfl⟩
  · rintro k s' ⟨i, σi, Wi, mi, hst, ri, hnw, hal, hl, gi, hi, rfl⟩
    have nwi : ∀ p ∈ c.frz ++ Wi.news, p.1 ∉ wr := fun p hp => by
      rcases List.mem_append.mp hp with hp | hp
      · exact X.nw p (List.mem_append_left _ hp)
      · exact hnw p hp
    by_cases hlt : i < items.length
    · refine X.T.item i _ _ _ hlt hst fun v h₃ tk₃ hMd hk₃ => ?_
      refine X.T.go i v _ _ _ hMd fun h₄ hP hst₄ hk₄ => ?_
      have r4 : R S c σi Wi mi { s' with heap := h₄, toks := tk₃ } := ri.off (wr := wr) (fun b o hb e => hk₄ b o hb (hk₃ b o hb e)) hLw X.wr0 nwi
      obtain ⟨e, he, hit⟩ := X.it i v h₄ hlt hP
      have hit' : ItR Wi h₄ e v := hit.mono gi.le
      have hdrop : items.drop i = e :: items.drop (i + 1) := by
        have hi' := (List.getElem?_eq_some_iff.mp he).1
        have hi2 := (List.getElem?_eq_some_iff.mp he).2
        rw [List.drop_eq_getElem_cons hi', hi2]
      rw [hdrop] at hl
      have Nown : News c.h₀ c.L h₄ (PyProof.Rows.ownOf c.h₀ wr h₄) := news_ownOf hLw
      let c' : Cx := { c with frz := PyProof.Rows.ownOf c.h₀ wr h₄ ++ c.frz }
      have O' : Ok S c' n := ⟨O.B, O.X, O.T, O.M, O.hA, O.hf, O.hke, O.hh, O.hd, O.hu, O.hl, O.hg, O.hb, O.hcd, O.old⟩
      have r5 : R S c' σi Wi mi { s' with heap := h₄, toks := tk₃ } := by
        refine ⟨r4.F, r4.N, r4.loc, r4.cel, r4.cvz, fun x w e => ?_, r4.ls, r4.len, r4.nd, fun p hp => ?_, fun hz p hp => ?_, fun hz p hp p' hp' => ?_, r4.calm, r4.mfix, r4.tabs, r4.gens, r4.os⟩
        · obtain ⟨u, oC, mC, a1, a2, a3⟩ := r4.cv x w e
          exact ⟨u, oC, mC, a1, List.mem_append_right _ a2, a3⟩
        · rcases List.mem_append.mp hp with hp | hp
          · exact Nown p hp
          · exact r4.fz p hp
        · rcases List.mem_append.mp hp with hp | hp
          · have hb := ownOf_sub p hp
            refine ⟨hal _ hb, fun t ht e => X.nt hfz t ht (e ▸ hb), fun x hx e => ?_⟩
            obtain ⟨o, v', h1, _⟩ := r4.cel x hx
            exact hnw _ h1 (e ▸ hb)
          · exact r4.fd hz p hp
        · rcases List.mem_append.mp hp with hp | hp
          · exact fun e => hnw p' hp' (e ▸ ownOf_sub p hp)
          · exact r4.fx hz p hp p' hp'
      refine wpAny_mono (hl c' rfl rfl rfl O' Wi v mi _ _ r5 hit' fun _ b σ₅ W₅ m₅ s₅ h₅ r₅ l₅ => h₅ W₅ m₅ s₅ (fun f s₃ => match f with
            | .next | .cont => ∃ m, m < items.length + 1 - i ∧ (∃ i' σi Wi mi, St i' s₃.heap ∧ R S c σi Wi mi s₃ ∧ (∀ p ∈ Wi.news, p.1 ∉ wr) ∧ (∀ b ∈ wr, b ∉ Wi.al) ∧ LoopS S c n target body (items.drop i') σi P ∧ Gr c (ownOf c) W₁ Wi ∧ i' ≤ items.length ∧ m = items.length + 1 - i')
            | .brk => Q .next s₃
            | .ret v => Q (.ret v) s₃) r₅ fun fl f σ₆ W₆ m₆ s₆ h₆ r₆ l₆ e₆ => ?_) (fun _ _ z => wpAny_mono z (fun f _ z => z) (fun _ _ z => z.elim)) (fun _ _ z => z.elim)
      have back : R S c σ₆ W₆ m₆ s₆ := ⟨r₆.F, r₆.N, r₆.loc, r₆.cel, r₆.cvz, fun x w e => (by rw [r₆.cvz hfz hel] at e; cases e), r₆.ls, r₆.len, r₆.nd, fun p hp => r₆.fz p (List.mem_append_right _ hp), fun hz p hp => r₆.fd hz p (List.mem_append_right _ hp), fun hz p hp => r₆.fx hz p (List.mem_append_right _ hp), r₆.calm, r₆.mfix, r₆.tabs, r₆.gens, r₆.os⟩
      have gr : Gr c (ownOf c) Wi W₆ := ⟨(l₅.trans l₆).le, fun h => by rw [hfz] at h; cases h⟩
      have owned : ∀ b ∈ wr, ∃ o, (b, o) ∈ PyProof.Rows.ownOf c.h₀ wr h₄ := fun b hb => by
        obtain ⟨o, ho⟩ := X.ex _ _ hst₄ b hb
        exact ⟨o, mem_ownOf hb (X.wr0 b hb) ho⟩
      cases fl with
      | ret w =>
        obtain ⟨y, e2, hy⟩ := e₆
        subst e2
        exact q _ _ σ₆ W₆ m₆ s₆ h₆ back ((l₁.own.trans gi).trans gr) ⟨y, rfl, hy⟩
      | next =>
        have e2 : f = .next := e₆
        subst e2
        refine ⟨items.length + 1 - (i + 1), by omega, i + 1, σ₆, W₆, m₆, ?_, back, fun p hp hb => ?_, fun b hb hm => ?_, h₆, gi.trans gr, hlt, rfl⟩
        · refine X.T.frame _ _ _ hst₄ fun b hb o e => ?_
          rcases X.src rfl b hb with hw | ⟨o', ho', hk'⟩
          · exact (r₆.fz _ (List.mem_append_left _ (mem_ownOf hw (X.wr0 b hw) e))).1
          · have a1 := gi.le.k _ ho' (hk' _)
            have a2 := (r4.N _ a1).1
            rw [show h₄.get? b = some o from e] at a2
            cases a2
            exact (r₆.N _ (gr.le.k _ a1 ((hk' _).go gi.le ho'))).1
        · obtain ⟨o, ho⟩ := owned _ hb
          exact r₆.fx hfz _ (List.mem_append_left _ ho) p hp rfl
        · obtain ⟨o, ho⟩ := owned _ hb
          exact (r₆.fd hfz _ (List.mem_append_left _ ho)).1 hm
    · have hin : i = items.length := by omega
      subst hin
      refine X.T.done _ _ _ hst fun h₃ tk₃ hk₃ => wpAny_execs_nil ?_
      rw [List.drop_length] at hl
      exact q .next .next σi Wi mi _ hl (ri.off (wr := wr) (fun b o hb e => hk₃ b o hb e) hLw X.wr0 nwi) (l₁.own.trans gi) rfl
  · -- a list of al is in the ledger
    obtain ⟨j, hj, e⟩ := List.getElem_of_mem hm
    have hl' : j < σ₁.ls.length := by rw [← r₁.len]; exact hj
    obtain ⟨a, ys, k', j1, j2, _⟩ := r₁.ls j _ (List.getElem?_eq_getElem hl')
    rw [List.getElem?_eq_getElem hj, e] at j1
    cases j1
    exact X.nw _ (List.mem_append_right _ j2) hb
end
end Mine

end

section
set_option maxRecDepth 100000
set_option autoImplicit false
set_option linter.unusedVariables false
namespace Mine
open PySem PySem.W PyProof.Rows PySem.Calls PyProof.Rows.LCg
section
variable {S : Sx} {c : Cx} {env : Env} {σ : St} {n : Nat} {W : Wd} {m : Str → Option Value} {s : Shared}
theorem R.newAddr (r : R S c σ W m s) : c.h₀.get? s.heap.objs.size = none := next_is_new r.F
theorem R.tabLt (r : R S c σ W m s) (hz : c.fz = false) : ∀ t ∈ S.tabs, t.1 < s.heap.objs.size := fun t ht => by
  obtain ⟨ps, h1, _⟩ := r.tabs hz t ht
  exact Heap.lt_size (r.N _ h1).1
theorem py_tup (O : Ok S c n) {md : Bool} {target : Expr} {vs : List V} {xv : Value} (r : R S c σ W m s) (hx : VR W (.tup vs) xv) (hg : ∀ (I : Addr) (v : Value), letOwnedTupleGo target (.ref I) v = pure () ∨ ∃ e k p, target = .Tuple e k p) : PySrc S c md target (vs.map .val) W xv s := by
  obtain ⟨ax, xs, rfl, a1, a2, a3⟩ := hx.isTup r
  intro E Q hQ
  have hlt : ax < s.heap.objs.size := Heap.lt_size (r.N _ a1).1
  have hL : c.L < s.heap.objs.size := r.F.ns.lt
  have hlen : xs.toArray.size = (vs.map It.val).length := by rw [List.size_toArray, List.length_map, a2.length]
  refine wpAny_pyIter_tuple a3 (hQ _ s.heap.objs.size [s.heap.objs.size, ax] [s.heap.objs.size] _ _ _ (fun b o e => Heap.get?_push_of_some _ e) ⟨hlen ▸ KTurns.ofWalks (Walks.tuple O.hh s.heap.objs.size ax (Nat.ne_of_lt hlt) xs.toArray) fun i v s Q E st q => letGo_tupleiter st.1 q, fun s' Q E st q => (Walks.tuple (prog := S.prog) (w := S.w) O.hh s.heap.objs.size ax (Nat.ne_of_lt hlt) xs.toArray).self 0 s' Q E st q,
    ⟨⟨_, Heap.get?_push_size _ rfl, rfl, rfl⟩, (let ⟨o, e, r⟩ := a3; ⟨o, Heap.get?_push_of_some _ e, r⟩)⟩, ?_, ?_, ?_, ?_, ?_, ?_, ?_, ?_⟩)
  · intro b hb
    rw [Heap.size_push]
    rcases List.mem_cons.mp hb with rfl | hb
    · exact Nat.lt_succ_self _
    · rw [List.mem_singleton.mp hb]; exact Nat.lt_succ_of_lt hlt
  · intro hb
    rcases List.mem_cons.mp hb with e | hb
    · exact Nat.ne_of_lt hL e
    · exact (r.N _ a1).2.1 (List.mem_singleton.mp hb).symm
  · intro b hb; rw [List.mem_singleton.mp hb]; exact r.newAddr
  · intro p hp hb; exact absurd (Heap.lt_size (r.all p hp).1) (by rw [List.mem_singleton.mp hb]; exact Nat.lt_irrefl _)
  · intro hz t h hb; exact absurd (r.tabLt hz t h) (by rw [List.mem_singleton.mp hb]; exact Nat.lt_irrefl _)
  · intro i h st b hb; rw [List.mem_singleton.mp hb]; obtain ⟨o, ho, _⟩ := st.1; exact ⟨o, ho⟩
  · intro _ b hb
    rcases List.mem_cons.mp hb with rfl | hb
    · exact .inl (.head _)
    · rw [List.mem_singleton.mp hb]; exact .inr ⟨_, a1, fun own => keep_tup _ _ _ _⟩
  · intro i v h hlt' hP
    have hP' : xs.toArray[i]? = some v := hP
    have hi : i < xs.length := by have := (Array.getElem?_eq_some_iff.mp hP').1; simpa using this
    have hi' : i < vs.length := by rw [← a2.length]; exact hi
    obtain ⟨u, hu, hu'⟩ := a2.get (List.getElem?_eq_getElem hi')
    refine ⟨.val vs[i], by simp [hi'], ?_⟩
    have : u = v := by
      have e : xs[i]? = some v := by simpa using hP'
      rw [hu] at e; exact Option.some.inj e
    exact this ▸ hu'
theorem py_list (O : Ok S c n) {md : Bool} {target : Expr} {vs : List V} {ax : Addr} {xs : List Value} {k : Nat} (r : R S c σ W m s) (a1 : (ax, listOf xs.toArray k) ∈ W.news) (a2 : VRs W vs xs) (hk : md = true → ax ∉ W.al) : PySrc S c md target (vs.map .val) W (.ref ax) s := by
  intro E Q hQ
  have hl : s.heap.IsList ax xs.toArray := ⟨_, (r.N _ a1).1, rfl, _, rfl⟩
  have hlt : ax < s.heap.objs.size := Heap.lt_size (r.N _ a1).1
  have hL : c.L < s.heap.objs.size := r.F.ns.lt
  have hlen : xs.toArray.size = (vs.map It.val).length := by rw [List.size_toArray, List.length_map, a2.length]
  refine wpAny_pyIter_list hl (hQ _ s.heap.objs.size [s.heap.objs.size, ax] [s.heap.objs.size] _ _ _ (fun b o e => Heap.get?_push_of_some _ e) ⟨hlen ▸ KTurns.ofWalks (Walks.list O.hh s.heap.objs.size ax (Nat.ne_of_lt hlt) xs.toArray) fun i v s Q E st q => letGo_listiter st.1 q, fun s' Q E st q => (Walks.list (prog := S.prog) (w := S.w) O.hh s.heap.objs.size ax (Nat.ne_of_lt hlt) xs.toArray).self 0 s' Q E st q,
    ⟨⟨_, Heap.get?_push_size _ rfl, rfl, rfl⟩, hl.push _⟩, ?_, ?_, ?_, ?_, ?_, ?_, ?_, ?_⟩)
  · intro b hb
    rw [Heap.size_push]
    rcases List.mem_cons.mp hb with rfl | hb
    · exact Nat.lt_succ_self _
    · rw [List.mem_singleton.mp hb]; exact Nat.lt_succ_of_lt hlt
  · intro hb
    rcases List.mem_cons.mp hb with e | hb
    · exact Nat.ne_of_lt hL e
    · exact (r.N _ a1).2.1 (List.mem_singleton.mp hb).symm
  · intro b hb; rw [List.mem_singleton.mp hb]; exact r.newAddr
  · intro p hp hb; exact absurd (Heap.lt_size (r.all p hp).1) (by rw [List.mem_singleton.mp hb]; exact Nat.lt_irrefl _)
  · intro hz t h hb; exact absurd (r.tabLt hz t h) (by rw [List.mem_singleton.mp hb]; exact Nat.lt_irrefl _)
  · intro i h st b hb; rw [List.mem_singleton.mp hb]; obtain ⟨o, ho, _⟩ := st.1; exact ⟨o, ho⟩
  · intro hm b hb
    rcases List.mem_cons.mp hb with rfl | hb
    · exact .inl (.head _)
    · rw [List.mem_singleton.mp hb]; exact .inr ⟨_, a1, fun own => keep_flst _ _ _ _ _ (hk hm)⟩
  · intro i v h hlt' hP
    have hP' : xs.toArray[i]? = some v := hP
    have hi : i < xs.length := by have := (Array.getElem?_eq_some_iff.mp hP').1; simpa using this
    have hi' : i < vs.length := by rw [← a2.length]; exact hi
    obtain ⟨u, hu, hu'⟩ := a2.get (List.getElem?_eq_getElem hi')
    refine ⟨.val vs[i], by simp [hi'], ?_⟩
    have : u = v := by
      have e : xs[i]? = some v := by simpa using hP'
      rw [hu] at e; exact Option.some.inj e
    exact this ▸ hu'

def rngI (a d : Int) (n : Nat) : List It := (List.range n).map fun (i : Nat) => .val (.int (a + (i : Int) * d))
theorem py_rng (O : Ok S c n) {md : Bool} {x : Str} {px : Pos} {a b d : Int} {k : Nat} {xv : Value} (r : R S c σ W m s) (hx : VR W (.rng a b d) xv) (hsm : Builtin.Range.small a b d = true) (hn : Builtin.Range.rangeSize a b d = ((k : Nat) : Int)) : PySrc S c md (.Name x px) (rngI a d k) W xv s := by
  cases hx with
  | rng a1 =>
    rename_i ra t u v
    intro E Q hQ
    have hL : c.L < s.heap.objs.size := r.F.ns.lt
    have hlen : k = (rngI a d k).length := by simp [rngI]
    have hr : IsRange s.heap ra a b d t u v := (r.N _ a1).1
    refine wpAny_pyIter_range hr hsm (hQ _ s.heap.objs.size [s.heap.objs.size] [s.heap.objs.size] _ _ _ (fun b o e => Heap.get?_push_of_some _ e) ⟨hlen ▸ KTurns.ofWalks (Walks.range O.hh s.heap.objs.size a d k) fun i v s Q E st q => wpAny_of_eq (rfl : letOwnedTupleGo (.Name x px) (.ref _) v = pure ()) q, fun s' Q E st q => (Walks.range (prog := S.prog) (w := S.w) O.hh s.heap.objs.size a d k).self 0 s' Q E (by rw [hlen]; exact st) q,
      ?_, ?_, ?_, ?_, ?_, ?_, ?_, ?_, ?_⟩)
    · show IsRangeIter _ _ _ _ _
      rw [hn, ← hlen]
      have e1 : a + ((0 : Nat) : Int) * d = a := by simp
      have e2 : ((k : Nat) : Int) - ((0 : Nat) : Int) = k := by simp
      rw [e1, e2]
      exact Heap.get?_push_size _ rfl
    · intro b hb
      rw [List.mem_singleton.mp hb, Heap.size_push]; exact Nat.lt_succ_self _
    · intro hb; exact Nat.ne_of_lt hL (List.mem_singleton.mp hb)
    · intro b hb; rw [List.mem_singleton.mp hb]; exact r.newAddr
    · intro p hp hb; exact absurd (Heap.lt_size (r.all p hp).1) (by rw [List.mem_singleton.mp hb]; exact Nat.lt_irrefl _)
    · intro hz t h hb; exact absurd (r.tabLt hz t h) (by rw [List.mem_singleton.mp hb]; exact Nat.lt_irrefl _)
    · intro i h st b hb; rw [List.mem_singleton.mp hb]; exact ⟨_, st⟩
    · intro _ b hb; exact .inl hb
    · intro i v h hlt' hP
      have hi : i < k := hlen ▸ hlt'
      obtain ⟨t, rfl⟩ := hP
      exact ⟨.val (.int (a + (i : Int) * d)), by simp [rngI, hi], .int⟩
theorem ite_of {md : Bool} {iter target : Expr} {K : List It → St → Prop} (h : EvS S c env iter σ fun v σ₁ => ∃ items, K items σ₁ ∧ ∀ W m s xv, R S c σ₁ W m s → VR W v xv → PySrc S c md target items W xv s) : IteS S c md env iter target σ K := fun W m s Q r q => by
  refine h W m s _ r fun v xv σ₁ W₁ m₁ s₁ h₁ r₁ l₁ e₁ => ?_
  obtain ⟨items, hk, hp⟩ := h₁
  exact q items xv σ₁ W₁ m₁ s₁ hk r₁ l₁ (hp W₁ m₁ s₁ xv r₁ e₁)
end
end Mine

end

section
set_option maxRecDepth 100000
set_option autoImplicit false
set_option linter.unusedVariables false
namespace Mine
open PySem PySem.W PyProof.Rows PySem.Calls PyProof.Rows.LCg
theorem KTurns.bd {prog : Program} {w : World} {A : Around} {target : Expr} {I : Addr} {fp wr : List Addr} {n : Nat} {P Md : Nat → Value → Heap → Prop} {St : Nat → Heap → Prop} (W : KTurns prog w A target I fp wr n P Md St) :
    KTurns prog w A target I fp wr n (fun i v h => i < n ∧ P i v h) (fun i v h => i < n ∧ Md i v h) St where
  sub := W.sub
  frame := W.frame
  item := fun i s Q E hi st hQ => W.item i s Q E hi st fun v h' tk hm hk => hQ v h' tk ⟨hi, hm⟩ hk
  go := fun i v s Q E hm hQ => W.go i v s Q E hm.2 fun h' hP st hk => hQ h' ⟨hm.1, hP⟩ st hk
  done := W.done
def cvOf : Expr → It → List (Str × V)
  | .Name x _, .val v => [(x, v)]
  | .Tuple [.Name x _, .Name y _] _ _, .pair v w => [(x, v), (y, w)]
  | _, _ => []
def CvR (W : Wd) (l : List (Str × V)) (m : Str → Option Value) : Prop := ∀ x v, l.lookup x = some v → ∃ u, m x = some u ∧ VR W v u
def TgOk (scope : Scope) (target : Expr) (items : List It) : Prop :=
  (∃ x p, target = .Name x p ∧ scope.names.lookup x = some .local ∧ ∀ e ∈ items, ∃ v, e = .val v) ∨
  (∃ x p y p' k p'', target = .Tuple [.Name x p, .Name y p'] k p'' ∧ scope.names.lookup x = some .local ∧ scope.names.lookup y = some .local ∧ x ≠ y ∧ ∀ e ∈ items, ∃ v w, e = .pair v w)
section
variable {prog : Program} {w : World} {A : Around} {E : Value → Shared → Prop} {s : Shared} {h₀ : Heap} {L : Addr} {env : Env}
theorem cmValE {elt iter : Expr} {target : Expr} {scope : Scope} {cl : List (Str × Addr)} {pos : Pos} {Q : Value → Shared → Prop}
    (hclos : closureFor scope env = pure cl) (hcell : ∀ y ∈ scope.names, y.2 ≠ .cell) (hkind : scope.kind = .function)
    (hnames : ∀ y ∈ scope.names, y.2 = .local → scope.names.lookup y.1 = some .local)
    (h : wpAny (model prog w) A (eval iter env) (fun xv s₁ => ∃ m, CmSrc prog w A h₀ L m env scope cl target elt (CmFinE h₀ L m Q) xv s₁) E s)
    (hs : ∀ x, foldedSetIterable iter env x = pure x) :
    wpAny (model prog w) A (eval (.ListComp elt [⟨target, iter, [], 0⟩] scope pos) env) Q E s := by
  rw [eval_ListComp]
  refine wpAny_comprehension_free (use := none) rfl hs hclos hkind hnames (wpAny_mono h (fun xv s₁ h₁ => ?_) fun _ _ e => e)
  obtain ⟨m, led, n, Bind, Φ, hsz, F, N, S, helt, fin⟩ := h₁
  refine S _ _ fun h₂ I fp wr P Md St up W hself hasg hst hfp hL hwr hwl => ?_
  refine cmBlock0 W hsz hself hasg hcell hkind hst hfp hL hwr hwl (F.keeps up) (N.grown up) helt fun D C h tk m' ys nw F' N' lo hi hDC hLD hn hC₀ hD₀ hm => ?_
  refine ⟨m', hn, fun h'' hs'' => fin D h'' tk ys nw (F'.change hs'' (Nat.ne_of_gt (Nat.lt_trans hLD hDC)) hC₀) (fun p hp => ?_) lo (fun r hr => Nat.lt_trans hDC (hi r hr)) hm⟩
  refine ⟨hs''.extBut _ _ ?_ (N' p hp).1, (N' p hp).2⟩
  rcases List.mem_cons.mp hp with rfl | hp
  · exact Nat.ne_of_lt hDC
  rcases List.mem_append.mp hp with hp | hp
  · exact Nat.ne_of_gt (hi p hp)
  · exact Nat.ne_of_lt (Nat.lt_trans (lo p hp) hDC)
theorem cmAsgE {elt iter : Expr} {target : Expr} {y : Str} {py : Pos} {scope : Scope} {cl : List (Str × Addr)} {pos spos : Pos} {Q : Flow → Shared → Prop} (hLe : env.locals = L)
    (hsw : swapsWith (.ListComp elt [⟨target, iter, [], 0⟩] scope pos) (some (.Name y py)) spos.line env = pure true)
    (hclos : closureFor scope env = pure cl) (hcell : ∀ z ∈ scope.names, z.2 ≠ .cell) (hkind : scope.kind = .function)
    (hnames : ∀ z ∈ scope.names, z.2 = .local → scope.names.lookup z.1 = some .local)
    (hy : env.kindOf y = some .local) (hp : (env.scope.kind == .class || (env.scope.kind == .module && env.locals != env.globals)) = false)
    (h : wpAny (model prog w) A (eval iter env) (fun xv s₁ => ∃ m, CmSrc prog w A h₀ L m env scope cl target elt (CmFinA h₀ L m y Q) xv s₁) E s)
    (hs : ∀ x, foldedSetIterable iter env x = pure x) :
    wpAny (model prog w) A (exec (.Assign [.Name y py] (.ListComp elt [⟨target, iter, [], 0⟩] scope pos) spos) env) Q E s := by
  subst hLe
  rw [exec_Assign_Name_used _ _ _ _ hsw]
  refine wpAny_bind (wpAny_standAt (wpAny_bind ?_))
  show wpAny _ A (do let _ ← comprehension (.ListComp elt [⟨target, iter, [], 0⟩] scope pos) scope env _ (newList []) false (eval iter env) (some (assign (.Name y py) env))) _ _ s
  refine wpAny_bind (wpAny_mono (wpAny_comprehension_free (use := some (assign (.Name y py) env)) (Q := fun _ s' => Q .next s') rfl hs hclos hkind hnames
    (wpAny_mono h (fun xv s₁ h₁ => ?_) fun _ _ e => e)) (fun _ s' hq => wpAny_pure (wpAny_pure hq)) fun _ _ e => e)
  obtain ⟨m, led, n, Bind, Φ, hsz, F, N, S, helt, fin⟩ := h₁
  refine S _ _ fun h₂ I fp wr P Md St up W hself hasg hst hfp hL hwr hwl => ?_
  refine cmBlock0 W hsz hself hasg hcell hkind hst hfp hL hwr hwl (F.keeps up) (N.grown up) helt fun D C h' tk m' ys nw F' N' lo hi hDC hLD hn hC₀ hD₀ hm => ?_
  show wpAny _ A (assign (.Name y py) env (.ref D)) _ _ _
  refine wpAny_assign_Name (wpAny_storeName_local hy F'.ns (fun h₂ hn₂ hs₂ => ?_) hp)
  have hCL : C ≠ env.locals := Nat.ne_of_gt (Nat.lt_trans hLD hDC)
  have hL₀ : h₀.get? env.locals = none := Heap.get?_none_of_le F'.above
  have F₂ : Fr h₀ env.locals h₂ (fun z => if z = y then some (.ref D) else m z) := ⟨hn₂, fun b o e => hs₂.extBut b o (fun q => by rw [q, hL₀] at e; cases e) (F'.keep b o e), F'.above⟩
  refine ⟨m', hn.sameBut hs₂ hCL, fun h'' hs'' => fin D h'' _ ys nw (F₂.change hs'' hCL hC₀) (fun p hp => ?_) lo (fun r hr => Nat.lt_trans hDC (hi r hr)) hm⟩
  have z : h₂.get? p.1 = some p.2 := hs₂.extBut _ _ (N' p hp).2.1 (N' p hp).1
  refine ⟨hs''.extBut _ _ ?_ z, (N' p hp).2⟩
  rcases List.mem_cons.mp hp with rfl | hp
  · exact Nat.ne_of_lt hDC
  rcases List.mem_append.mp hp with hp | hp
  · exact Nat.ne_of_gt (hi p hp)
  · exact Nat.ne_of_lt (Nat.lt_trans (lo p hp) hDC)

end
section
variable {S : Sx} {c : Cx} {env : Env} {σ : St} {n : Nat} {W : Wd} {m : Str → Option Value} {s : Shared}
theorem asgC (hh : c.A.handled = none) {scope : Scope} {cl : List (Str × Addr)} {target : Expr} {items : List It} {P : Nat → Value → Heap → Prop} (hk : scope.kind = .function) (ht : TgOk scope target items) (hP : ∀ i v h, P i v h → ∃ e, items[i]? = some e ∧ ItR W h e v) :
    ∀ C i v (s : Shared) (mC : Str → Option Value) (Q : Unit → Shared → Prop) (E : Value → Shared → Prop), P i v s.heap → s.heap.Ns C mC → (∀ h' tk m', h'.Ns C m' → (∃ e, items[i]? = some e ∧ CvR W (cvOf target e) m') → (∀ b o, b ≠ C → s.heap.get? b = some o → h'.get? b = some o) → Q () { s with heap := h', toks := tk }) → wpAny (model S.prog S.w) c.A (assign target (compEnvC scope cl C env) v) Q E s := by
  intro C i v s mC Q E hp hn h
  obtain ⟨e, he, hr⟩ := hP i v _ hp
  have hm := List.mem_of_getElem? he
  have hc0 : ((compEnvC scope cl C env).scope.kind == .class || ((compEnvC scope cl C env).scope.kind == .module && (compEnvC scope cl C env).locals != (compEnvC scope cl C env).globals)) = false := by simp [compEnvC, relabel, hk]
  rcases ht with ⟨x, p, rfl, hx, hi⟩ | ⟨x, p, y, p', k, p'', rfl, hx, hy, hxy, hi⟩
  · obtain ⟨w, rfl⟩ := hi e hm
    refine wpAny_assign_Name (wpAny_storeName_local (lookup_relabel_local hx) hn (fun h₃ hn₃ hs₃ => h h₃ _ _ hn₃ ⟨_, he, fun z u q => ?_⟩ hs₃.extBut) hc0)
    simp only [cvOf, List.lookup_cons, List.lookup_nil] at q
    cases zx : z == x with
    | true => rw [zx] at q; cases q; exact ⟨v, by simp [beq_iff_eq.mp zx], hr⟩
    | false => rw [zx] at q; cases q
  · obtain ⟨w1, w2, rfl⟩ := hi e hm
    obtain ⟨T, x1, x2, rfl, hT, h1, h2⟩ := hr
    have hCs : C < s.heap.objs.size := hn.lt
    refine wpAny_assign_Tuple hh hT rfl rfl fun h' hx' => ?_
    have hn' : h'.Ns C mC := hn.at' fun o e => hx' C o (Nat.ne_of_lt hCs) e
    refine assignInOrder_cons (wpAny_assign_Name (wpAny_storeName_local (lookup_relabel_local hx) hn' (fun h₃ hn₃ hs₃ => ?_) hc0))
    refine assignInOrder_cons (wpAny_assign_Name (wpAny_storeName_local (lookup_relabel_local hy) hn₃ (fun h₄ hn₄ hs₄ => ?_) hc0))
    refine assignInOrder_nil (h h₄ _ _ hn₄ ⟨_, he, fun z u q => ?_⟩ fun b o hb e => hs₄.extBut b o hb (hs₃.extBut b o hb (hx' b o (Nat.ne_of_lt (Heap.lt_size e)) e)))
    simp only [cvOf, List.lookup_cons, List.lookup_nil] at q
    cases zx : z == x with
    | true =>
      rw [zx] at q; cases q
      have := beq_iff_eq.mp zx
      subst this
      exact ⟨x1, by simp [hxy], h1⟩
    | false =>
      rw [zx] at q
      cases zy : z == y with
      | true => rw [zy] at q; cases q; exact ⟨x2, by simp [beq_iff_eq.mp zy], h2⟩
      | false => rw [zy] at q; cases q

def CompS (S : Sx) (c : Cx) (n : Nat) (scope : Scope) (cl : List (Str × Addr)) (target elt : Expr) (σ : St) : List It → (List V → Prop) → Prop
  | [], K => K []
  | it :: r, K => ∃ out, (∀ c' : Cx, c'.fenv = c.fenv → c'.fz = true → Ok S c' n → EvS S c' (compEnvC scope cl c'.C c'.fenv) elt ⟨σ.loc, cvOf target it, σ.ls⟩ fun v _ => v = out) ∧ CompS S c n scope cl target elt σ r fun vs => K (out :: vs)
theorem CompS.outs {scope : Scope} {cl : List (Str × Addr)} {target elt : Expr} : ∀ {items : List It} {K : List V → Prop}, CompS S c n scope cl target elt σ items K → ∃ outs : List V, K outs ∧ outs.length = items.length ∧
    ∀ (i : Nat) e out, items[i]? = some e → outs[i]? = some out → ∀ c' : Cx, c'.fenv = c.fenv → c'.fz = true → Ok S c' n → EvS S c' (compEnvC scope cl c'.C c'.fenv) elt ⟨σ.loc, cvOf target e, σ.ls⟩ fun v _ => v = out
  | [], K, h => ⟨[], h, rfl, fun i e out h => by simp at h⟩
  | it :: r, K, ⟨out, h1, h2⟩ => by
    obtain ⟨outs, a, b, d⟩ := CompS.outs h2
    refine ⟨out :: outs, a, by simp [b], fun i e o h h' => ?_⟩
    cases i with
    | zero => simp at h h'; subst h h'; exact h1
    | succ i => exact d i e o (by simpa using h) (by simpa using h')
theorem made_vrs {al : List Addr} {led : List (Addr × Obj)} {outs : List V} : ∀ {i : Nat} {ys : List Value} {nw : List (Addr × Obj)}, MadeC (fun i y new => ∃ out, outs[i]? = some out ∧ VR ⟨new ++ led, al⟩ out y) (fun _ => true) i ys nw → i ≤ outs.length → VRs ⟨nw ++ led, al⟩ (outs.take i) ys
  | 0, ys, nw, h, _ => by obtain ⟨rfl, rfl⟩ := h; rw [List.take_zero]; exact .nil
  | i + 1, ys, nw, h, hi => by
    obtain ⟨ys', nw', y, new, h1, rfl, rfl, out, ho, hv⟩ := made1 h
    have ih := made_vrs h1 (by omega)
    rw [List.take_add_one, ho]
    have l1 : Le [] ⟨nw' ++ led, al⟩ ⟨new ++ nw' ++ led, al⟩ := ⟨fun p hp _ => by rw [List.append_assoc]; exact List.mem_append_right _ hp, fun _ _ h => h, fun _ h => .inl h, fun p hp => ⟨p, by rw [List.append_assoc]; exact List.mem_append_right _ hp, rfl⟩⟩
    have l2 : Le [] ⟨new ++ led, al⟩ ⟨new ++ nw' ++ led, al⟩ := by
      have sub : ∀ p ∈ new ++ led, p ∈ new ++ nw' ++ led := fun p hp => by
        rcases List.mem_append.mp hp with hp | hp
        · exact List.mem_append_left _ (List.mem_append_left _ hp)
        · exact List.mem_append_right _ hp
      exact ⟨fun p hp _ => sub p hp, fun _ _ h => h, fun _ h => .inl h, fun p hp => ⟨p, sub p hp, rfl⟩⟩
    exact (ih.mono l1).append (.cons (hv.mono l2) .nil)
theorem R.comp (O : Ok S c n) (hfz : c.fz = false) (hel : c.el = false) {D : Addr} {h : Heap} {tk : Nat} {ys : List Value} {nw : List (Addr × Obj)} {outs : List V} {m' : Str → Option Value} (r : R S c σ W m s)
    (F' : Fr c.h₀ c.L h m') (N' : News c.h₀ c.L h ((D, lst ys) :: (nw ++ (c.frz ++ W.news)))) (lo : ∀ b ∈ c.frz ++ W.news, @LT.lt Nat _ b.1 D) (hi : ∀ r ∈ nw, @LT.lt Nat _ D r.1) (hv : VRs ⟨nw ++ W.news, W.al⟩ outs ys)
    (hloc : ∀ x v, σ.loc.lookup x = some v → ∃ u, VR W v u ∧ LocAt c W m' x u) :
    R S c { σ with ls := σ.ls ++ [outs] } ⟨(D, lst ys) :: (nw ++ W.news), W.al ++ [D]⟩ m' { s with heap := h, toks := tk } ∧ Gr c [] W ⟨(D, lst ys) :: (nw ++ W.news), W.al ++ [D]⟩ ∧ VR ⟨(D, lst ys) :: (nw ++ W.news), W.al ++ [D]⟩ (.lst σ.ls.length) (.ref D) := by
  have hi' : ∀ b ∈ c.frz ++ W.news, ∀ q ∈ nw, b.1 < q.1 := fun b hb q hq => Nat.lt_trans (lo b hb) (hi q hq)
  have r1 : R S c σ ⟨nw ++ W.news, W.al⟩ m' { s with heap := h, toks := tk } := by
    have l : Le [] W ⟨nw ++ W.news, W.al⟩ := ⟨fun p hp _ => List.mem_append_right _ hp, fun _ _ h => h, fun _ h => .inl h, fun p hp => ⟨p, List.mem_append_right _ hp, rfl⟩⟩
    refine ⟨F', fun p hp => ?_, fun x v e => ?_, fun x e => (let ⟨o, v, h1, h2⟩ := r.cel x e; ⟨o, v, List.mem_append_right _ h1, h2⟩), r.cvz, fun x v e => ?_, fun k vs e => ?_, r.len, r.nd, fun p hp => N' p (.tail _ (List.mem_append_right _ (List.mem_append_left _ hp))), r.fd,
      fun hz q hq p hp => (List.mem_append.mp hp).elim (fun hp => Nat.ne_of_gt (hi' q (List.mem_append_left _ hq) p hp)) (r.fx hz q hq p), r.calm, (fun h => by rw [hel] at h; cases h), fun hz t ht => ?_, r.gens, r.os⟩
    · rcases List.mem_append.mp hp with hp | hp
      · exact N' p (.tail _ (List.mem_append_left _ hp))
      · exact N' p (.tail _ (List.mem_append_right _ (List.mem_append_right _ hp)))
    · obtain ⟨u, h1, h2⟩ := hloc x v e; exact ⟨u, h1.mono l, h2.mono fun p hp _ => List.mem_append_right _ hp⟩
    · obtain ⟨u, oC, mC, h1, h2⟩ := r.cv x v e; exact ⟨u, oC, mC, h1.mono l, h2⟩
    · obtain ⟨a, xs, n, h1, h2, h3⟩ := r.ls k vs e; exact ⟨a, xs, n, h1, List.mem_append_right _ h2, h3.mono l⟩
    · obtain ⟨ps, h1, h2⟩ := r.tabs hz t ht; exact ⟨ps, List.mem_append_right _ h1, h2⟩
  have g1 : Gr c [] W ⟨nw ++ W.news, W.al⟩ := ⟨⟨fun p hp _ => List.mem_append_right _ hp, fun _ _ h => h, fun _ h => .inl h, fun p hp => ⟨p, List.mem_append_right _ hp, rfl⟩⟩, fun h => by rw [hfz] at h; cases h⟩
  have N2 : News c.h₀ c.L h ((D, lst ys) :: (c.frz ++ (nw ++ W.news))) := fun p hp => by
    rcases List.mem_cons.mp hp with rfl | hp
    · exact N' _ (.head _)
    rcases List.mem_append.mp hp with hp | hp
    · exact N' p (.tail _ (List.mem_append_right _ (List.mem_append_left _ hp)))
    rcases List.mem_append.mp hp with hp | hp
    · exact N' p (.tail _ (List.mem_append_left _ hp))
    · exact N' p (.tail _ (List.mem_append_right _ (List.mem_append_right _ hp)))
  obtain ⟨r2, g2⟩ := r1.newList (h' := h) (tk := tk) (n := ys.length) hfz F' N2 (fun b hb => by
    rcases List.mem_append.mp hb with hb | hb
    · exact Nat.ne_of_lt (lo b (List.mem_append_left _ hb))
    rcases List.mem_append.mp hb with hb | hb
    · exact Nat.ne_of_gt (hi b hb)
    · exact Nat.ne_of_lt (lo b (List.mem_append_right _ hb))) hv
  exact ⟨r2, g1.trans g2, .lst (by rw [← r.len]; simp)⟩
def dropL (y : Str) (σ : St) : St := { σ with loc := σ.loc.filter fun p => !(p.1 == y) }
theorem dropL_get {y x : Str} {v : V} {σ : St} (h : (dropL y σ).loc.lookup x = some v) : σ.loc.lookup x = some v ∧ ¬ x = y := by
  unfold dropL at h
  simp only at h
  generalize σ.loc = l at h
  induction l with
  | nil => cases h
  | cons p r ih =>
    obtain ⟨k, w⟩ := p
    rw [List.filter_cons] at h
    cases q : k == y with
    | true =>
      simp only [q, Bool.not_true, Bool.false_eq_true, if_false] at h
      obtain ⟨h1, h2⟩ := ih h
      refine ⟨?_, h2⟩
      rw [List.lookup_cons]
      have : (x == k) = false := by rw [beq_iff_eq.mp q]; exact beq_eq_false_iff_ne.mpr h2
      rw [this]; exact h1
    | false =>
      simp only [q, Bool.not_false, if_true] at h
      rw [List.lookup_cons] at h ⊢
      cases z : x == k with
      | true => rw [z] at h; exact ⟨h, by rw [beq_iff_eq.mp z]; exact beq_eq_false_iff_ne.mp q⟩
      | false => rw [z] at h; exact ih h
theorem dropL_sub (y : Str) (σ : St) : ∀ x v, (dropL y σ).loc.lookup x = some v → σ.loc.lookup x = some v := fun x v h => (dropL_get h).1

theorem R.bindNew {y : Str} {v : V} {u : Value} {σ₁ : St} {ls : List (List V)} (hel : c.el = false) (r : R S c { dropL y σ₁ with ls := ls } W m s) (hyc : c.fenv.cells.lookup y = none) (hv : VR W v u) (hm : m y = some u) : R S c (setL y v { σ₁ with ls := ls }) W m s := by
  refine ⟨r.F, r.N, fun x w e => ?_, r.cel, r.cvz, r.cv, r.ls, r.len, r.nd, r.fz, r.fd, r.fx, r.calm, r.mfix, r.tabs, r.gens, r.os⟩
  simp only [setL, List.lookup_cons] at e
  cases q : x == y with
  | true =>
    rw [q] at e; cases e
    refine ⟨u, hv, ?_⟩
    unfold LocAt
    rw [beq_iff_eq.mp q, hyc]; exact hm
  | false =>
    rw [q] at e
    refine r.loc x w ?_
    have hne := beq_eq_false_iff_ne.mp q
    show (dropL y σ₁).loc.lookup x = some w
    unfold dropL
    simp only
    generalize σ₁.loc = l at e
    induction l with
    | nil => cases e
    | cons p r ih =>
      obtain ⟨k, w'⟩ := p
      rw [List.lookup_cons] at e
      rw [List.filter_cons]
      cases z : x == k with
      | true =>
        rw [z] at e; cases e
        have : (k == y) = false := by rw [← beq_iff_eq.mp z]; exact q
        simp only [this, Bool.not_false, if_true, List.lookup_cons, z]
      | false =>
        rw [z] at e
        cases z2 : k == y with
        | true => simp only [Bool.not_true, Bool.false_eq_true, if_false]; exact ih e
        | false => simp only [Bool.not_false, if_true, List.lookup_cons, z]; exact ih e
theorem comp_src (O : Ok S c n) (hfz : c.fz = false) {scope : Scope} {cl : List (Str × Addr)} {target elt : Expr} {items : List It} {outs : List V} {xv : Value} {Fin : Shared → Nat → List (Addr × Obj) → (Nat → Value → List (Addr × Obj) → Prop) → Prop} (hk : scope.kind = .function) (ht : TgOk scope target items) (hz : items.length ≤ 1000) (ho : outs.length = items.length)
    (r : R S c σ W m s) (X : PySrc S c false target items W xv s)
    (he : ∀ (i : Nat) e out, items[i]? = some e → outs[i]? = some out → ∀ c' : Cx, c'.fenv = c.fenv → c'.fz = true → Ok S c' n → EvS S c' (compEnvC scope cl c'.C c'.fenv) elt ⟨σ.loc, cvOf target e, σ.ls⟩ fun v _ => v = out)
    (hF : Fin s items.length (c.frz ++ W.news) fun i y new => ∃ out, outs[i]? = some out ∧ VR ⟨new ++ W.news, W.al⟩ out y) : CmSrc S.prog S.w c.A c.h₀ c.L m c.fenv scope cl target elt Fin xv s := by
  refine ⟨c.frz ++ W.news, items.length, fun i m' => ∃ e, items[i]? = some e ∧ CvR W (cvOf target e) m', fun i y new => ∃ out, outs[i]? = some out ∧ VR ⟨new ++ W.news, W.al⟩ out y, by rw [sizeLine_eq]; omega, r.F, r.all, fun E Q hQ => ?_, ?_, hF⟩
  · refine X E Q fun h₂ I fp wr P Md St up Y => ?_
    refine hQ h₂ I fp wr _ _ St up (KTurns.bd Y.T) Y.self (asgC (S := S) (c := c) (env := c.fenv) (W := W) (P := fun i v h => i < items.length ∧ P i v h) (cl := cl) O.hh hk ht fun i v h hp => ?_) Y.st Y.lt Y.L Y.wr0 Y.nw
    obtain ⟨e, h1, h2⟩ := Y.it i v h hp.1 hp.2
    exact ⟨e, h1, h2⟩
  · intro i C oC zs u m₂ E' hi _ hb hn hC F N sub
    obtain ⟨e, h1, h2⟩ := hb
    have hi' : i < outs.length := by rw [ho]; exact hi
    have O' : Ok S { c with C := C, fz := true, frz := zs, os := u.os, gens := u.gens, drawn := u.drawn, el := true, mm := m } n := ⟨O.B, O.X, O.T, O.M, O.hA, O.hf, O.hke, O.hh, O.hd, O.hu, O.hl, O.hg, O.hb, O.hcd, O.old⟩
    have r' : R S { c with C := C, fz := true, frz := zs, os := u.os, gens := u.gens, drawn := u.drawn, el := true, mm := m } ⟨σ.loc, cvOf target e, σ.ls⟩ W m u := by
      refine ⟨F, fun p hp => N p (sub p (List.mem_append_right _ hp)), r.loc, r.cel, fun h => (nomatch h), fun x v q => ?_, r.ls, r.len, r.nd, N, fun h => (nomatch h), fun h => (nomatch h), fun _ => ⟨rfl, rfl⟩, fun _ => rfl, fun h => (nomatch h), fun h => (nomatch h), rfl⟩
      obtain ⟨w, a, b⟩ := h2 x v q
      exact ⟨w, oC, m₂, b, hC, hn, a⟩
    refine wpAny_mono (he i e _ h1 (List.getElem?_eq_getElem hi') { c with C := C, fz := true, frz := zs, os := u.os, gens := u.gens, drawn := u.drawn, el := true, mm := m } rfl rfl O' W m u (EltPost c.L c.h₀ zs u m _ i) r' fun v y σ' W' m' s' hv r3 g3 e3 => ?_) (fun _ _ z => z) (fun _ _ z => z.elim)
    subst hv
    obtain ⟨a1, new, a2, a3⟩ := g3.fz rfl
    have hm' : Fr c.h₀ c.L s'.heap m := (show m' = m from r3.mfix rfl) ▸ r3.F
    refine ⟨new, hm', fun p hp => ?_, ⟨s'.heap, s'.toks, ?_⟩, fun b hb q hq => (a3 q hq).2 b hb, fun q hq => (a3 q hq).1, _, List.getElem?_eq_getElem hi', ?_⟩
    · rcases List.mem_append.mp hp with hp | hp
      · exact r3.N p (by rw [a2]; exact List.mem_append_left _ hp)
      · exact r3.fz p hp
    · obtain ⟨b1, b2⟩ := r3.calm rfl
      have b3 := r3.os
      cases s'
      cases u
      simp only at b1 b2 b3
      rw [b1, b2, b3]
    · have : W' = ⟨new ++ W.news, W.al⟩ := by cases W'; simp only at a1 a2; rw [a1, a2]
      rw [← this]
      exact e3
theorem ev_comp (O : Ok S c n) (hfz : c.fz = false) (hel : c.el = false) {scope : Scope} {cl : List (Str × Addr)} {target elt iter : Expr} {pos : Pos} {P : V → St → Prop} (hclos : closureFor scope c.fenv = pure cl) (hcell : ∀ y ∈ scope.names, y.2 ≠ .cell) (hk : scope.kind = .function)
    (hnames : ∀ y ∈ scope.names, y.2 = .local → scope.names.lookup y.1 = some .local) (hs : ∀ x, foldedSetIterable iter c.fenv x = pure x)
    (h : IteS S c false c.fenv iter target σ fun items σ₁ => TgOk scope target items ∧ items.length ≤ 1000 ∧ CompS S c n scope cl target elt σ₁ items fun outs => NewK σ₁ outs P) : EvS S c c.fenv (.ListComp elt [⟨target, iter, [], 0⟩] scope pos) σ P := fun W m s Q r q => by
  refine cmValE (h₀ := c.h₀) (L := c.L) hclos hcell hk hnames (h W m s _ r fun items xv σ₁ W₁ m₁ s₁ h₁ r₁ l₁ X₁ => ?_) hs
  obtain ⟨ht, hz, hc⟩ := h₁
  obtain ⟨outs, hP, ho, he⟩ := hc.outs
  refine ⟨m₁, ?_⟩
  refine comp_src O hfz hk ht hz ho r₁ X₁ he ?_
  intro D h tk ys nw F' N' lo hi hm
  have hv := made_vrs hm (by omega)
  rw [← ho, List.take_length] at hv
  obtain ⟨r2, g2, v2⟩ := r₁.comp (tk := tk) O hfz hel F' N' lo hi hv r₁.loc
  exact q _ _ _ _ _ _ hP r2 (l₁.trans g2) v2
theorem st_comp (O : Ok S c n) (hfz : c.fz = false) (hel : c.el = false) {scope : Scope} {cl : List (Str × Addr)} {target elt iter : Expr} {pos spos : Pos} {y : Str} {py : Pos} {E : Env} {P : Fl → St → Prop} (hsw : swapsWith (.ListComp elt [⟨target, iter, [], 0⟩] scope pos) (some (.Name y py)) spos.line c.fenv = pure true) (hclos : closureFor scope c.fenv = pure cl) (hcell : ∀ y ∈ scope.names, y.2 ≠ .cell) (hk : scope.kind = .function)
    (hnames : ∀ y ∈ scope.names, y.2 = .local → scope.names.lookup y.1 = some .local) (hs : ∀ x, foldedSetIterable iter c.fenv x = pure x) (hE : c.fenv = E) (hy : E.kindOf y = some .local) (hyc : E.cells.lookup y = none)
    (h : IteS S c false c.fenv iter target σ fun items σ₁ => TgOk scope target items ∧ items.length ≤ 1000 ∧ CompS S c n scope cl target elt σ₁ items fun outs => NewK σ₁ outs fun v σ => P .next (setL y v σ)) : StS S c (.Assign [.Name y py] (.ListComp elt [⟨target, iter, [], 0⟩] scope pos) spos) σ P := fun W m s Q r q => by
  subst hE
  refine cmAsgE (h₀ := c.h₀) O.hl hsw hclos hcell hk hnames hy (by rw [O.hke]; rfl) (h W m s _ r fun items xv σ₁ W₁ m₁ s₁ h₁ r₁ l₁ X₁ => ?_) hs
  obtain ⟨ht, hz, hc⟩ := h₁
  obtain ⟨outs, hP, ho, he⟩ := hc.outs
  refine ⟨m₁, ?_⟩
  refine comp_src O hfz hk ht hz ho r₁ X₁ he ?_
  intro D h tk ys nw F' N' lo hi hm
  have hv := made_vrs hm (by omega)
  rw [← ho, List.take_length] at hv
  have hloc' : ∀ x v, (dropL y σ₁).loc.lookup x = some v → ∃ u, VR W₁ v u ∧ LocAt c W₁ (fun z => if z = y then some (.ref D) else m₁ z) x u := fun x v e => by
    obtain ⟨e1, e2⟩ := dropL_get e
    obtain ⟨u, h1, h2⟩ := r₁.loc x v e1
    refine ⟨u, h1, ?_⟩
    unfold LocAt at h2 ⊢
    split
    · rename_i z; rw [z] at h2; simp only [e2, if_false]; exact h2
    · rename_i z z'; rw [z'] at h2; exact h2
  obtain ⟨r2, g2, v2⟩ := R.comp (σ := dropL y σ₁) (tk := tk) O hfz hel (r₁.weaken (dropL_sub y σ₁) rfl rfl) F' N' lo hi hv hloc'
  exact q _ .next _ _ _ _ hP (R.bindNew hel r2 hyc v2 (by simp)) (l₁.trans g2).own rfl
end
end Mine

end

section
open PySem PySem.W PyProof.Rows PySem.Calls
set_option maxRecDepth 100000
set_option Elab.async false
namespace Mine
local macro_rules | `(tactic| k_room) => `(tactic| first | ((try simp only [depth_under_make, depth_under_kw, depth_in1, depth_deeper, depth_caller]); omega) | ktr_room)
local macro_rules | `(tactic| k_units) => `(tactic| first | ((try simp only [units_under_make, units_in1, units_deeper, Around.mark_units, units_caller]); omega) | ((have hcL9 := cLine_is); (try simp only [units_under_make, units_in1, units_deeper, Around.mark_units, units_caller]); omega) | ktr_units)
local macro_rules | `(tactic| k_enter) => `(tactic| first
  | (refine' Mine.enterR ?k1 ?k2 ?k3 ?k4 ?k5 ?kA ?kF ?kK ?k6 ?k7 ?k8 ?k9 ?kB ?_ ?c2 ?c3 ?c4 ?c5; (case kA => exact rfl); (case kF => first | exact rfl | assumption); (case kK => first | exact rfl | assumption); (case k1 => k_asm); (case k2 => k_asm); (case k3 => k_asm); (case k4 => k_asm); (case k5 => k_asm); (case k6 => k_is); (case k7 => k_is); (case k8 => k_room); (case k9 => first | exact BindsTo.of_eq rfl | exact binds_K (by k_in) rfl (by k_is) rfl rfl rfl | fail "k_enter: no rule for these arguments"); (case c5 => decide); (case kB => exact locs rfl); (case c2 => exact rfl); (case c3 => exact rfl); (case c4 => exact rfl); k_whole; intro g' L' h' tk' FG' F' N' B' X' T' l1; (try k_lt l1); (try dsimp only); (try k_lift B'); (try k_fold))
  | (refine' Mine.enterRC ?k1 ?k2 ?k3 ?k4 ?k5 ?kA ?kF ?kK ?k6 ?k7 ?k8 ?k9 ?kB ?kD ?_ ?c2 ?c3 ?c4; (case kA => exact rfl); (case kF => first | exact rfl | assumption); (case kK => first | exact rfl | assumption); (case k1 => k_asm); (case k2 => k_asm); (case k3 => k_asm); (case k4 => k_asm); (case k5 => k_asm); (case k6 => k_is); (case k7 => k_is); (case k8 => k_room); (case k9 => first | exact BindsTo.of_eq rfl | exact binds_K (by k_in) rfl (by k_is) rfl rfl rfl | fail "k_enter: no rule for these arguments"); (case kB => exact rfl); (case kD => decide +kernel); (case c2 => exact rfl); (case c3 => exact rfl); (case c4 => exact rfl); k_whole; intro g' L' h' tk' cells' FG' F' N' Y' B' X' T' l1; (try k_lt l1); k_cells Y'; (try simp only [List.cons_append, List.nil_append] at N'); (try dsimp only); (try k_lift B'); (try k_fold)))
local macro_rules | `(tactic| walk_at "binaryOp Div ref ref") => `(tactic| (k_here; (with_reducible show wpAny _ _ (binaryOp _ (Value.ref _) (Value.ref _)) _ _ _); k_dflt (refine' binop_K ?k1 ?k2 ?k3 ?k4 ?k5 ?k6 ?k7 ?_; (case k1 => k_asm); (case k2 => k_asm); (case k3 => k_inst); (case k4 => k_typeOf); (case k5 => k_is); (case k6 => k_is); (case k7 => k_is); k_whole)))
local macro_rules | `(tactic| walk_at "call type:int") => `(tactic| (k_here; (with_reducible show wpAny _ _ (call (Value.type "int") [Value.ref _]) _ _ _); k_dflt (refine' Mine.int_K ?F ?X ?I ?hS ?hF ?_; (case F => k_asm); (case X => k_asm); (case I => k_inst); (case hS => k_is); (case hF => k_is); k_whole)))
local macro_rules | `(tactic| walk_at "binaryOp Sub int ref") => `(tactic| (k_here; (with_reducible show wpAny _ _ (binaryOp Operator.Sub (Value.int _ _) (Value.ref _)) _ _ _); k_dflt (refine' Mine.bin_IR ?F ?X ?I ?hC ?hS ?hR ?hF ?hU ?hfl ?sl ?hd ?_; (case F => k_asm); (case X => k_asm); (case I => k_inst); (case hS => k_is); (case hR => k_is); (case hF => k_is); (case hC => k_is); (case hU => k_is); (case hfl => exact F.fills_int_sub); (case sl => exact F.slot_int_sub); (case hd => exact Mine.decl_sub (by k_inst) rfl); k_whole)))
local macro_rules | `(tactic| walk_at "binaryOp Div int ref") => `(tactic| (k_here; (with_reducible show wpAny _ _ (binaryOp Operator.Div (Value.int _ _) (Value.ref _)) _ _ _); k_dflt (refine' Mine.bin_IR ?F ?X ?I ?hC ?hS ?hR ?hF ?hU ?hfl ?sl ?hd ?_; (case F => k_asm); (case X => k_asm); (case I => k_inst); (case hS => k_is); (case hR => k_is); (case hF => k_is); (case hC => k_is); (case hU => k_is); (case hfl => exact F.fills_int_truediv); (case sl => exact F.slot_int_truediv); (case hd => exact Mine.decl_div (by k_inst) rfl); k_whole)))
local macro_rules | `(tactic| k_mem) => `(tactic| first | exact List.Mem.head _ | (refine Mine.mem_tl ?_; k_mem))
local macro_rules | `(tactic| walk_at "call type:tuple") => `(tactic| (k_here; (with_reducible show wpAny _ _ (call (Value.type "tuple") [Value.ref _]) _ _ _); k_dflt (refine' Mine.tup_same ?N ?h ?_; (case N => k_asm); (case h => k_mem); k_whole)))
local macro_rules | `(tactic| walk_at "subscriptTail") => `(tactic| (k_here; (with_reducible show wpAny _ _ (subscriptTail _ _ (Value.ref _) (Value.int _ _)) _ _ _); k_dflt (refine' item_tupleT ?t ?a ?b ?c ?d ?_; (case t => exact News.isTup (by k_asm) (by k_mem)); (case a => decide); (case b => decide); (case c => rfl); (case d => rfl); k_whole)))
local macro_rules | `(tactic| walk_at "subscriptTail Attribute") => `(tactic| (k_here; (with_reducible show wpAny _ _ (subscriptTail _ _ (Value.ref _) (Value.int _ _)) _ _ _); k_dflt (refine' item_tupleT ?t ?a ?b ?c ?d ?_; (case t => exact News.isTup (by k_asm) (by k_mem)); (case a => decide); (case b => decide); (case c => rfl); (case d => rfl); k_whole)))
local macro_rules | `(tactic| walk_at "subscriptTail Name") => `(tactic| (k_here; (with_reducible show wpAny _ _ (subscriptTail _ _ (Value.ref _) (Value.int _ _)) _ _ _); k_dflt (refine' item_tupleT ?t ?a ?b ?c ?d ?_; (case t => exact News.isTup (by k_asm) (by k_mem)); (case a => decide); (case b => decide); (case c => rfl); (case d => rfl); k_whole)))
local macro_rules | `(tactic| walk_at "getItem ref int") => `(tactic| (k_here; (with_reducible show wpAny _ _ (getItem (Value.ref _) (Value.int _ _)) _ _ _); k_dflt (refine' Mine.lget ?N ?m ?a ?b ?x ?_; (case N => k_asm); (case m => k_mem); (case a => decide); (case b => decide); (case x => rfl); k_whole)))
local macro_rules | `(tactic| walk_at "setItem ref int") => `(tactic| (k_here; (with_reducible show wpAny _ _ (setItem (Value.ref _) (Value.int _ _) _) _ _ _); k_dflt (refine' ki_set ?F ?N ?a ?b ?e ?U ?_; (case F => k_asm); (case N => k_asm); (case U => k_upd); (case a => decide); (case b => decide); (case e => rfl)); intro h' F' N'; (try dsimp only [List.nil_append, List.cons_append] at N'); (try k_sweep)))
local macro_rules | `(tactic| walk_at "RangeRest") => `(tactic| first | (with_reducible refine' RangeRest.succ ?_; intro t' h' tk' F' N') | (with_reducible refine' RangeRest.zero ?_; intro h' tk' F' N'))
local macro_rules | `(tactic| walk_at "eval Name") => `(tactic| (k_here; k_dflt (first
  | (refine' nameX_L ?F ?v ?_ ?a ?b; (case F => k_asm); (case a => rfl); (case b => rfl); (case v => rfl); k_whole)
  | (refine' nameX_C ?N ?c ?m ?d ?_ ?a ?b; (case a => rfl); (case b => rfl); (case N => k_asm); (case c => rfl); (case m => k_mem); (case d => k_asm); k_whole)
  | (refine' nameX_K ?F ?X ?T ?e ?_ ?a ?b; (case F => k_asm); (case X => k_asm); (case T => k_asm); (case a => rfl); (case b => rfl); (case e => k_is); k_whole)
  | (refine' nameX_B ?F ?X ?T ?e ?v ?n ?_ ?a ?b; (case F => k_asm); (case X => k_asm); (case T => k_asm); (case a => rfl); (case b => rfl); (case e => k_is); (case v => boot_fast); (case n => decide); k_whole))))
local macro_rules | `(tactic| k_all) => `(tactic| with_reducible assumption)
local macro_rules | `(tactic| walk_at "call builtin:len") => `(tactic| (k_here; (with_reducible show wpAny _ _ (call (Value.builtin "len") [Value.ref _]) _ _ _); k_dflt (refine' kst_len ?N ?m ?e ?f ?_; (case N => k_asm); (case m => k_mem); (case e => rfl); (case f => decide); k_whole)))


set_option maxHeartbeats 2000000 in
theorem fq_new  {prog : Program} {w : World} {p : Program} {loose : List Str} {mg mb : Str → Option Value}
    {dp un : Nat} {gd : Option (List Code)} {env : Env} {outer : List Env} {A₀ : Around} {base h₀ : Heap} {L : Addr} {m : Str → Option Value} {news : List (Addr × Obj)} {s : Shared}
    {Q E : Value → Shared → Prop}
    (B : Below A₀ base outer h₀) (F : Fr h₀ L s.heap m) (X : (hd.heap_39 w.params).In h₀) (N : News h₀ L s.heap news) (T : TopRead p loose mg mb h₀) (hf : env.frame = some L) (hke : env.scope.kind = .function)
    (hdp : dp + 20 < recursionLimit) (hun : un + 200 < cLine)
    {q : Int} (hq : 0 < q) (hq2 : q < 1000) {n2 : Int} {ty : Tok} (hy0 : -1000000 < n2) (hy1 : n2 < 1000000) {tq : Tok} (ret : FqR 335 h₀ L m news s Q (Int.fmod n2 q) q) :
    wpAny (model prog w) { handled := none, depth := dp, frames := some (env :: outer), guards := gd, units := un } (call (.ref 335) [.int n2 ty, .int q tq]) Q E s := by
  k_steps
  all_goals first | exact fqR ret hq (by k_asm) (by k_asm) (by assumption) (by assumption) (by simp only [fmfm]) | exact fqRid ret (by omega) (by omega) (by k_asm) (by k_asm) (by assumption) (by assumption) rfl


set_option maxHeartbeats 2000000 in
theorem fq_copy  {prog : Program} {w : World} {p : Program} {loose : List Str} {mg mb : Str → Option Value}
    {dp un : Nat} {gd : Option (List Code)} {env : Env} {outer : List Env} {A₀ : Around} {base h₀ : Heap} {L : Addr} {m : Str → Option Value} {news : List (Addr × Obj)} {s : Shared}
    {Q E : Value → Shared → Prop}
    (B : Below A₀ base outer h₀) (F : Fr h₀ L s.heap m) (X : (hd.heap_39 w.params).In h₀) (N : News h₀ L s.heap news) (T : TopRead p loose mg mb h₀) (hf : env.frame = some L) (hke : env.scope.kind = .function)
    (hdp : dp + 20 < recursionLimit) (hun : un + 200 < cLine)
    {q : Int} (hq : 0 < q) (hq2 : q < 1000) {x : Value} {n1 : Int} (hx : FqIn 335 news x n1 q) (hx0 : 0 ≤ n1) (hx1 : n1 < q) {tq : Tok} (ret : FqR 335 h₀ L m news s Q (n1) q) :
    wpAny (model prog w) { handled := none, depth := dp, frames := some (env :: outer), guards := gd, units := un } (call (.ref 335) [x, .int q tq]) Q E s := by
  obtain ⟨x, dx, hx1, hx2, tx1, tx2, tx3, tx4, rfl, hxa, hxb⟩ := hx
  k_steps
  all_goals first | exact fqR ret hq (by k_asm) (by k_asm) (by assumption) (by assumption) (by simp only [fmfm]) | exact fqRid ret (by omega) (by omega) (by k_asm) (by k_asm) (by assumption) (by assumption) rfl


section
set_option hygiene false in
local macro_rules | `(tactic| walk_at "exec While Compare cons nil") => `(tactic| k_while (fun (script : List Int) lm hm low high => 0 ≤ low ∧ low < high ∧ high < 1000 ∧ PfiInv (pfiL n.toNat 1 0 (Int.fmod (Int.fmod a n) n) n) lm hm low high) (fun (script : List Int) lm hm low high => low.toNat) "lm" "hm" "low" "high")
local macro_rules | `(tactic| walk_at "binaryOp Mult int int") => `(tactic| (k_here; (with_reducible refine mul_int ?_ (Mine.mul_fdiv (by omega) (by omega) (by omega)))))

set_option maxHeartbeats 2000000 in
theorem pfi_call {prog : Program} {w : World} {p : Program} {loose : List Str} {mg mb : Str → Option Value}
    {dp un : Nat} {gd : Option (List Code)} {env : Env} {outer : List Env} {A₀ : Around} {base h₀ : Heap} {L : Addr} {m : Str → Option Value} {news : List (Addr × Obj)} {s : Shared}
    {Q E : Value → Shared → Prop}
    (B : Below A₀ base outer h₀) (F : Fr h₀ L s.heap m) (X : (hd.heap_39 w.params).In h₀) (N : News h₀ L s.heap news) (T : TopRead p loose mg mb h₀) (hf : env.frame = some L) (hke : env.scope.kind = .function)
    (hdp : dp + 20 < recursionLimit) (hun : un + 200 < cLine)
    {a n : Int} {ta tn : Tok} (hn : 0 < n) (hn2 : n < 1000) (ha0 : -1000000 < a) (ha1 : a < 1000000)
    (ret : IntRet h₀ L m news s Q (pfi a n)) :
    wpAny (model prog w) { handled := none, depth := dp, frames := some (env :: outer), guards := gd, units := un } (call (.ref 28) [.int a ta, .int n tn]) Q E s := by
  have hlo := fm_lo (Int.fmod a n) hn
  have hhi := fm_hi (Int.fmod a n) hn
  have hp0 := pfi_P (pfi_start hlo hhi hn2)
  (k_with "state" => first | assumption | exact pfi_P (pfi_step (by assumption) (by assumption)))
  (k_with "measure" => exact pfi_less (by assumption))
  k_steps
  · exact pfi_ret0 ret (by assumption) (by k_asm) (by k_asm)
  · exact pfi_ret1 ret (by assumption) (by assumption) (by assumption) (by k_asm) (news_tl (news_tl (by k_asm)))


end


local macro_rules | `(tactic| walk_at "call ref") => `(tactic| (k_here; (with_reducible show wpAny _ _ (call (Value.ref 28) [Value.int _ _, Value.int _ _]) _ _ _); k_dflt (refine' Mine.pfi_call ?B ?F ?X ?N ?T ?hf ?hke ?hdp ?hun ?h1 ?h2 ?h3 ?h4 ?_; (case B => k_asm); (case F => k_asm); (case X => k_asm); (case N => k_asm); (case T => k_asm); (case hf => first | exact rfl | assumption); (case hke => first | exact rfl | assumption); (case hdp => k_room); (case hun => k_units); (case h1 => omega); (case h2 => omega); (case h3 => omega); (case h4 => omega); k_whole); intro t' h' tk' F' N'; (try k_sweep); (try dsimp only); (try k_fold)))

set_option maxHeartbeats 2000000 in
theorem fq_eqi  {prog : Program} {w : World} {p : Program} {loose : List Str} {mg mb : Str → Option Value}
    {dp un : Nat} {gd : Option (List Code)} {env : Env} {outer : List Env} {A₀ : Around} {base h₀ : Heap} {L : Addr} {m : Str → Option Value} {news : List (Addr × Obj)} {s : Shared}
    {Q E : Value → Shared → Prop}
    (B : Below A₀ base outer h₀) (F : Fr h₀ L s.heap m) (X : (hd.heap_39 w.params).In h₀) (N : News h₀ L s.heap news) (T : TopRead p loose mg mb h₀) (hf : env.frame = some L) (hke : env.scope.kind = .function)
    (hdp : dp + 40 < recursionLimit) (hun : un + 400 < cLine)
    {q : Int} {x : Value} {n1 : Int} (hx : FqIn 335 news x n1 q) (hx0 : 0 ≤ n1) (hx1 : n1 < q) {n2 : Int} {ty : Tok} (hy0 : -1000000 < n2) (hy1 : n2 < 1000000) (ret : ∀ h' tk', Fr h₀ L h' m → News h₀ L h' news → Q (.bool (n1 == n2)) { s with heap := h', toks := tk' }) :
    wpAny (model prog w) { handled := none, depth := dp, frames := some (env :: outer), guards := gd, units := un } (compareOp .Eq x (.int n2 ty)) Q E s := by
  obtain ⟨x, dx, hx1, hx2, tx1, tx2, tx3, tx4, rfl, hxa, hxb⟩ := hx
  k_steps
  all_goals first | exact ret _ _ (by k_asm) (by k_asm) | exact ret _ _ (by k_asm) (news_tl (by k_asm))


set_option maxHeartbeats 2000000 in
theorem fq_int  {prog : Program} {w : World} {p : Program} {loose : List Str} {mg mb : Str → Option Value}
    {dp un : Nat} {gd : Option (List Code)} {env : Env} {outer : List Env} {A₀ : Around} {base h₀ : Heap} {L : Addr} {m : Str → Option Value} {news : List (Addr × Obj)} {s : Shared}
    {Q E : Value → Shared → Prop}
    (B : Below A₀ base outer h₀) (F : Fr h₀ L s.heap m) (X : (hd.heap_39 w.params).In h₀) (N : News h₀ L s.heap news) (T : TopRead p loose mg mb h₀) (hf : env.frame = some L) (hke : env.scope.kind = .function)
    (hdp : dp + 40 < recursionLimit) (hun : un + 400 < cLine)
    {q : Int} {x : Value} {n1 : Int} (hx : FqIn 335 news x n1 q) (hx0 : 0 ≤ n1) (hx1 : n1 < q) (ret : ∀ t h' tk', Fr h₀ L h' m → News h₀ L h' news → Q (.int n1 t) { s with heap := h', toks := tk' }) :
    wpAny (model prog w) { handled := none, depth := dp, frames := some (env :: outer), guards := gd, units := un } (call (.type "int") [x]) Q E s := by
  obtain ⟨x, dx, hx1, hx2, tx1, tx2, tx3, tx4, rfl, hxa, hxb⟩ := hx
  k_steps
  all_goals first | exact ret _ _ _ (by k_asm) (by k_asm) | exact ret _ _ _ (by k_asm) (news_tl (by k_asm))


end Mine

end

section
open PySem PySem.W PyProof.Rows PySem.Calls
set_option maxRecDepth 100000
set_option Elab.async false
namespace Mine
local macro_rules | `(tactic| k_room) => `(tactic| first | ((try simp only [depth_under_make, depth_under_kw, depth_in1, depth_deeper, depth_caller]); omega) | ktr_room)
local macro_rules | `(tactic| k_units) => `(tactic| first | ((try simp only [units_under_make, units_in1, units_deeper, Around.mark_units, units_caller]); omega) | ((have hcL9 := cLine_is); (try simp only [units_under_make, units_in1, units_deeper, Around.mark_units, units_caller]); omega) | ktr_units)
local macro_rules | `(tactic| k_enter) => `(tactic| first
  | (refine' Mine.enterR ?k1 ?k2 ?k3 ?k4 ?k5 ?kA ?kF ?kK ?k6 ?k7 ?k8 ?k9 ?kB ?_ ?c2 ?c3 ?c4 ?c5; (case kA => exact rfl); (case kF => first | exact rfl | assumption); (case kK => first | exact rfl | assumption); (case k1 => k_asm); (case k2 => k_asm); (case k3 => k_asm); (case k4 => k_asm); (case k5 => k_asm); (case k6 => k_is); (case k7 => k_is); (case k8 => k_room); (case k9 => first | exact BindsTo.of_eq rfl | exact binds_K (by k_in) rfl (by k_is) rfl rfl rfl | fail "k_enter: no rule for these arguments"); (case c5 => decide); (case kB => exact locs rfl); (case c2 => exact rfl); (case c3 => exact rfl); (case c4 => exact rfl); k_whole; intro g' L' h' tk' FG' F' N' B' X' T' l1; (try k_lt l1); (try dsimp only); (try k_lift B'); (try k_fold))
  | (refine' Mine.enterRC ?k1 ?k2 ?k3 ?k4 ?k5 ?kA ?kF ?kK ?k6 ?k7 ?k8 ?k9 ?kB ?kD ?_ ?c2 ?c3 ?c4; (case kA => exact rfl); (case kF => first | exact rfl | assumption); (case kK => first | exact rfl | assumption); (case k1 => k_asm); (case k2 => k_asm); (case k3 => k_asm); (case k4 => k_asm); (case k5 => k_asm); (case k6 => k_is); (case k7 => k_is); (case k8 => k_room); (case k9 => first | exact BindsTo.of_eq rfl | exact binds_K (by k_in) rfl (by k_is) rfl rfl rfl | fail "k_enter: no rule for these arguments"); (case kB => exact rfl); (case kD => decide +kernel); (case c2 => exact rfl); (case c3 => exact rfl); (case c4 => exact rfl); k_whole; intro g' L' h' tk' cells' FG' F' N' Y' B' X' T' l1; (try k_lt l1); k_cells Y'; (try simp only [List.cons_append, List.nil_append] at N'); (try dsimp only); (try k_lift B'); (try k_fold)))
local macro_rules | `(tactic| walk_at "binaryOp Div ref ref") => `(tactic| (k_here; (with_reducible show wpAny _ _ (binaryOp _ (Value.ref _) (Value.ref _)) _ _ _); k_dflt (refine' binop_K ?k1 ?k2 ?k3 ?k4 ?k5 ?k6 ?k7 ?_; (case k1 => k_asm); (case k2 => k_asm); (case k3 => k_inst); (case k4 => k_typeOf); (case k5 => k_is); (case k6 => k_is); (case k7 => k_is); k_whole)))
local macro_rules | `(tactic| walk_at "call type:int") => `(tactic| (k_here; (with_reducible show wpAny _ _ (call (Value.type "int") [Value.ref _]) _ _ _); k_dflt (refine' Mine.int_K ?F ?X ?I ?hS ?hF ?_; (case F => k_asm); (case X => k_asm); (case I => k_inst); (case hS => k_is); (case hF => k_is); k_whole)))
local macro_rules | `(tactic| walk_at "binaryOp Sub int ref") => `(tactic| (k_here; (with_reducible show wpAny _ _ (binaryOp Operator.Sub (Value.int _ _) (Value.ref _)) _ _ _); k_dflt (refine' Mine.bin_IR ?F ?X ?I ?hC ?hS ?hR ?hF ?hU ?hfl ?sl ?hd ?_; (case F => k_asm); (case X => k_asm); (case I => k_inst); (case hS => k_is); (case hR => k_is); (case hF => k_is); (case hC => k_is); (case hU => k_is); (case hfl => exact F.fills_int_sub); (case sl => exact F.slot_int_sub); (case hd => exact Mine.decl_sub (by k_inst) rfl); k_whole)))
local macro_rules | `(tactic| walk_at "binaryOp Div int ref") => `(tactic| (k_here; (with_reducible show wpAny _ _ (binaryOp Operator.Div (Value.int _ _) (Value.ref _)) _ _ _); k_dflt (refine' Mine.bin_IR ?F ?X ?I ?hC ?hS ?hR ?hF ?hU ?hfl ?sl ?hd ?_; (case F => k_asm); (case X => k_asm); (case I => k_inst); (case hS => k_is); (case hR => k_is); (case hF => k_is); (case hC => k_is); (case hU => k_is); (case hfl => exact F.fills_int_truediv); (case sl => exact F.slot_int_truediv); (case hd => exact Mine.decl_div (by k_inst) rfl); k_whole)))
local macro_rules | `(tactic| k_mem) => `(tactic| first | exact List.Mem.head _ | (refine Mine.mem_tl ?_; k_mem))
local macro_rules | `(tactic| walk_at "call type:tuple") => `(tactic| (k_here; (with_reducible show wpAny _ _ (call (Value.type "tuple") [Value.ref _]) _ _ _); k_dflt (refine' Mine.tup_same ?N ?h ?_; (case N => k_asm); (case h => k_mem); k_whole)))
local macro_rules | `(tactic| walk_at "subscriptTail") => `(tactic| (k_here; (with_reducible show wpAny _ _ (subscriptTail _ _ (Value.ref _) (Value.int _ _)) _ _ _); k_dflt (refine' item_tupleT ?t ?a ?b ?c ?d ?_; (case t => exact News.isTup (by k_asm) (by k_mem)); (case a => decide); (case b => decide); (case c => rfl); (case d => rfl); k_whole)))
local macro_rules | `(tactic| walk_at "subscriptTail Attribute") => `(tactic| (k_here; (with_reducible show wpAny _ _ (subscriptTail _ _ (Value.ref _) (Value.int _ _)) _ _ _); k_dflt (refine' item_tupleT ?t ?a ?b ?c ?d ?_; (case t => exact News.isTup (by k_asm) (by k_mem)); (case a => decide); (case b => decide); (case c => rfl); (case d => rfl); k_whole)))
local macro_rules | `(tactic| walk_at "subscriptTail Name") => `(tactic| (k_here; (with_reducible show wpAny _ _ (subscriptTail _ _ (Value.ref _) (Value.int _ _)) _ _ _); k_dflt (refine' item_tupleT ?t ?a ?b ?c ?d ?_; (case t => exact News.isTup (by k_asm) (by k_mem)); (case a => decide); (case b => decide); (case c => rfl); (case d => rfl); k_whole)))
local macro_rules | `(tactic| walk_at "getItem ref int") => `(tactic| (k_here; (with_reducible show wpAny _ _ (getItem (Value.ref _) (Value.int _ _)) _ _ _); k_dflt (refine' Mine.lget ?N ?m ?a ?b ?x ?_; (case N => k_asm); (case m => k_mem); (case a => decide); (case b => decide); (case x => rfl); k_whole)))
local macro_rules | `(tactic| walk_at "setItem ref int") => `(tactic| (k_here; (with_reducible show wpAny _ _ (setItem (Value.ref _) (Value.int _ _) _) _ _ _); k_dflt (refine' ki_set ?F ?N ?a ?b ?e ?U ?_; (case F => k_asm); (case N => k_asm); (case U => k_upd); (case a => decide); (case b => decide); (case e => rfl)); intro h' F' N'; (try dsimp only [List.nil_append, List.cons_append] at N'); (try k_sweep)))
local macro_rules | `(tactic| walk_at "RangeRest") => `(tactic| first | (with_reducible refine' RangeRest.succ ?_; intro t' h' tk' F' N') | (with_reducible refine' RangeRest.zero ?_; intro h' tk' F' N'))
local macro_rules | `(tactic| walk_at "eval Name") => `(tactic| (k_here; k_dflt (first
  | (refine' nameX_L ?F ?v ?_ ?a ?b; (case F => k_asm); (case a => rfl); (case b => rfl); (case v => rfl); k_whole)
  | (refine' nameX_C ?N ?c ?m ?d ?_ ?a ?b; (case a => rfl); (case b => rfl); (case N => k_asm); (case c => rfl); (case m => k_mem); (case d => k_asm); k_whole)
  | (refine' nameX_K ?F ?X ?T ?e ?_ ?a ?b; (case F => k_asm); (case X => k_asm); (case T => k_asm); (case a => rfl); (case b => rfl); (case e => k_is); k_whole)
  | (refine' nameX_B ?F ?X ?T ?e ?v ?n ?_ ?a ?b; (case F => k_asm); (case X => k_asm); (case T => k_asm); (case a => rfl); (case b => rfl); (case e => k_is); (case v => boot_fast); (case n => decide); k_whole))))
local macro_rules | `(tactic| k_all) => `(tactic| with_reducible assumption)
local macro_rules | `(tactic| walk_at "call builtin:len") => `(tactic| (k_here; (with_reducible show wpAny _ _ (call (Value.builtin "len") [Value.ref _]) _ _ _); k_dflt (refine' kst_len ?N ?m ?e ?f ?_; (case N => k_asm); (case m => k_mem); (case e => rfl); (case f => decide); k_whole)))

















local macro_rules | `(tactic| walk_at "compareOp Eq ref") => `(tactic| (k_here; (with_reducible show wpAny _ _ (compareOp CmpOp.Eq (Value.ref _) (Value.int _ _)) _ _ _); k_dflt (refine' Mine.fq_eqi ?B ?F ?X ?N ?T ?hf ?hke ?hdp ?hun ?hx ?x0 ?x1 ?y0 ?y1 ?_; (case B => k_asm); (case F => k_asm); (case X => k_asm); (case N => k_asm); (case T => k_asm); (case hf => first | exact rfl | assumption); (case hke => first | exact rfl | assumption); (case hdp => k_room); (case hun => k_units); (case hx => exact Mine.FqIn.of (by k_mem) (by k_mem)); (case x0 => omega); (case x1 => omega); (case y0 => omega); (case y1 => omega); k_whole); intro h' tk' F' N'; (try k_sweep); (try dsimp only); (try k_fold)))

local macro_rules | `(tactic| walk_at "call type:int") => `(tactic| (k_here; (with_reducible show wpAny _ _ (call (Value.type "int") [Value.ref _]) _ _ _); k_dflt (refine' Mine.fq_int ?B ?F ?X ?N ?T ?hf ?hke ?hdp ?hun ?hx ?x0 ?x1 ?_; (case B => k_asm); (case F => k_asm); (case X => k_asm); (case N => k_asm); (case T => k_asm); (case hf => first | exact rfl | assumption); (case hke => first | exact rfl | assumption); (case hdp => k_room); (case hun => k_units); (case hx => exact Mine.FqIn.of (by k_mem) (by k_mem)); (case x0 => omega); (case x1 => omega); k_whole); intro t' h' tk' F' N'; (try k_sweep); (try dsimp only); (try k_fold)))

local macro_rules | `(tactic| walk_at "call ref") => `(tactic| (k_here; (with_reducible show wpAny _ _ (call (Value.ref 335) [Value.int _ _, Value.int _ _]) _ _ _); k_dflt (refine' Mine.fq_new ?B ?F ?X ?N ?T ?hf ?hke ?hdp ?hun ?hq ?hq2 ?y0 ?y1 ?_; (case B => k_asm); (case F => k_asm); (case X => k_asm); (case N => k_asm); (case T => k_asm); (case hf => first | exact rfl | assumption); (case hke => first | exact rfl | assumption); (case hdp => k_room); (case hun => k_units); (case hq => omega); (case hq2 => omega); (case y0 => omega); (case y1 => omega); k_whole); intro n' x' d' k1' k2' t1' t2' t3' t4' h' tk' en' e0' e1' F' N' l1 l2; (try k_lt l1); (try k_lt2 l2); (try k_sweep); (try dsimp only); (try k_fold)))

local macro_rules | `(tactic| walk_at "call ref") => `(tactic| (k_here; (with_reducible show wpAny _ _ (call (Value.ref 335) [Value.ref _, Value.int _ _]) _ _ _); k_dflt (refine' Mine.fq_copy ?B ?F ?X ?N ?T ?hf ?hke ?hdp ?hun ?hq ?hq2 ?hx ?x0 ?x1 ?_; (case B => k_asm); (case F => k_asm); (case X => k_asm); (case N => k_asm); (case T => k_asm); (case hf => first | exact rfl | assumption); (case hke => first | exact rfl | assumption); (case hdp => k_room); (case hun => k_units); (case hq => omega); (case hq2 => omega); (case hx => exact Mine.FqIn.of (by k_mem) (by k_mem)); (case x0 => omega); (case x1 => omega); k_whole); intro n' x' d' k1' k2' t1' t2' t3' t4' h' tk' en' e0' e1' F' N' l1 l2; (try k_lt l1); (try k_lt2 l2); (try k_sweep); (try dsimp only); (try k_fold)))

local macro_rules | `(tactic| walk_at "eval Name") => `(tactic| (k_here; (with_reducible show wpAny _ _ (eval (Expr.Name _ _) (genEnv _ _ _ _ _ _)) _ _ _); k_dflt (first
  | (refine' Mine.gen_loc ?F ?v ?_ ?a ?b ?c; (case F => k_asm); (case v => assumption); (case a => rfl); (case b => rfl); (case c => decide); k_whole)
  | (refine' Mine.gen_free ?N ?c ?m ?d ?_ ?a ?b ?e ?f; (case N => k_asm); (case a => rfl); (case b => rfl); (case c => rfl); (case m => assumption); (case d => assumption); (case e => decide); (case f => decide); k_whole))))

set_option hygiene false in
local macro_rules | `(tactic| walk_at "eval GeneratorExp") => `(tactic| (k_here; (with_reducible rename News _ _ _ _ => nE'); (with_reducible rename Frag.In _ _ => xE'); (with_reducible rename TopRead _ _ _ _ _ => tE'); (have nE2' := Mine.pull3 nE'); k_dflt (refine' Mine.genEval (Φ := Mine.PhiF 335 u v q) ?B ?F nE2' ?hPn ?hps ?hlim ?M ?hA ?hf ?hke ?hh ?hroom ?hc ?hco2 ?hcls ?hd ?h11 ?h18 ?h7 ?h9 ?h10 ?hco ?hclos ?hcell ?h0 ?hx ?hkind ?hiter ?S ?hlP ?hs ?helt ?_; (case B => k_asm); (case F => k_asm); (case hlim => exact TopRead.nolimit (by k_asm)); (case M => assumption); (case hA => exact rfl); (case hf => exact rfl); (case hke => exact rfl); (case hh => exact rfl); (case hroom => k_room); (case hc => exact rfl); (case hco2 => exact xE' _ _ (by k_is)); (case hcls => exact rfl); (case hd => exact rfl); (case h11 => exact rfl); (case h18 => exact rfl); (case h7 => exact rfl); (case h9 => exact rfl); (case h10 => exact rfl); (case hco => exact rfl); (case hclos => exact rfl); (case hcell => decide); (case h0 => exact rfl); (case hx => exact rfl); (case hkind => exact rfl); (case hiter => (intro Q9 h9; walk1; exact h9)); (case S => first | exact Mine.Src.list ⟨_, (News.get (by k_asm) (by k_mem)), rfl, _, rfl⟩ | exact Mine.Src.tuple ⟨_, (News.get (by k_asm) (by k_mem)), rfl, _, rfl⟩); (case hlP => assumption); (case hps => assumption); (case hs => exact fun _ => rfl); (case hPn => k_all); (case helt => (intro dp' un' gd' c' cG' gB ledU u' m₂ i' v' E' e1 e2 hi B1' st1 F1' hm1 N1' hsub; (simp only [depth_under_make, depth_under_kw, depth_in1, depth_deeper, depth_caller] at e1); (simp only [units_under_make, units_in1, units_deeper, Around.mark_units, units_caller] at e2); (have X1' := Frag.In.keeps xE' st1); (have T1' := TopRead.keeps tE' st1); (have c1' := hsub _ (List.Mem.head _)); (have c2' := hsub _ (Mine.mem_tl (List.Mem.head _))); (have c3' := hsub _ (Mine.mem_tl (Mine.mem_tl (List.Mem.head _)))); (have ks' : ∀ p ∈ news, p ∈ ledU := fun p hp => hsub p (Mine.mem_tl (Mine.mem_tl (Mine.mem_tl (hp))))); (refine Mine.eltStart ?_); (obtain ⟨nC, hnC, ⟨bC1, bC2⟩, hC⟩ := Mine.coef_at (h0.mono ks') (h1.mono ks') hi);  rcases hC with ⟨tC, rfl⟩ | ⟨⟨xC, dC, h1C, h2C, t1C, t2C, t3C, t4C, rfl, hCa, hCb⟩, bC3, bC4⟩; (all_goals k_steps); (all_goals first | exact Mine.eltF (by k_asm) (by k_asm) (by assumption) (by assumption) (by assumption) rfl (by assumption) | exact Mine.eltF (by k_asm) (by k_asm) (by assumption) (by assumption) (by assumption) (Mine.fm_id (by assumption) (by assumption)).symm (by assumption))))); intro aG gN' cG iG nG psG s₅ rG; (have F5' := rG.fr); (have N5' := rG.nw); (try k_sweep); (try dsimp only); (try k_fold)))

local macro_rules | `(tactic| walk_at "call type:tuple") => `(tactic| (k_here; (with_reducible show wpAny _ _ (call (Value.type "tuple") [Value.ref _]) _ _ _); (with_reducible rename Mine.GenReady _ _ _ _ _ _ _ _ _ _ _ _ _ _ _ _ _ _ _ => rG'); k_dflt (refine' Mine.tupF rG' ?hh ?hroom ?_; (case hh => exact rfl); (case hroom => k_room); k_whole); clear rG'; intro T' x0' d0' k01' k02' t01' t02' t03' t04' n0' x1' d1' k11' k12' t11' t12' t13' t14' n1' s' F' N' en0' en1' gB' gO' lo0' lo1' l0' l1' lT0' lT1' tB'; (try k_lt lo0'); (try k_lt lo1'); (try k_lt2 l0'); (try k_lt2 l1'); (try k_lt2 lT0'); (try k_lt2 lT1'); (try k_sweep); (try dsimp only); (try k_fold)))

set_option maxHeartbeats 2000000 in
theorem pl_new_lt {ps : Array Value} {bm : Addr} {ob : Obj} {mg' : Str → Option Value} {prog : Program} {w : World} {p : Program} {loose : List Str} {mg mb : Str → Option Value}
    {dp un : Nat} {gd : Option (List Code)} {env : Env} {outer : List Env} {A₀ : Around} {base h₀ : Heap} {L : Addr} {m : Str → Option Value} {news : List (Addr × Obj)} {s : Shared}
    {Q E : Value → Shared → Prop}
    (B : Below A₀ base outer h₀) (F : Fr h₀ L s.heap m) (X : (hd.heap_39 w.params).In h₀) (N : News h₀ L s.heap ((348, tabO ps) :: news)) (T : TopRead p loose mg mb h₀) (hf : env.frame = some L) (hke : env.scope.kind = .function)
    (hdp : dp + 60 < recursionLimit) (hun : un + 600 < cLine)
    (M : BMod base mainGlobals mg' bm ob) {q c na : Int} {tq tc ta tcl : Tok} {cl ml : Addr} {v0 v1 : Value} {k1 : Nat} {u v : Int} (hP : ∀ p ∈ news, p.1 ≠ 348) (hps : TbOk ⟨288, 28, 288, 80⟩ ps) (hq : 0 < q) (hq2 : q < 1000) (hcl : (cl, listOf #[v0, v1] k1) ∈ news) (hml : (ml, tupO #[.int c tc, .int na ta]) ∈ news) (h0 : CoefB 335 news v0 u q) (h1 : CoefB 335 news v1 v q)
    (ret : PlR 348 ⟨288, 28, 288, 80⟩ 449 335 h₀ L m news s Q (Int.fmod u q) (Int.fmod v q) c na q) :
    wpAny (model prog w) { handled := none, depth := dp, frames := some (env :: outer), guards := gd, units := un } (call (.ref 449) [.ref cl, .ref ml, .int q tq]) Q E s := by
  have hclP : cl ≠ 348 := hP _ hcl
  k_steps
  all_goals (refine' ret _ _ _ _ ?F ?N ?tb ?np ?sb ?g ?o ?fq; (case F => k_asm); (case N => (first | exact Mine.pl0 348 (by k_asm) | exact Mine.pl1 348 (by k_asm) | exact Mine.pl2 348 (by k_asm) | exact Mine.pl3 348 (by k_asm) | exact Mine.pl4 348 (by k_asm) | exact Mine.pl5 348 (by k_asm) | exact Mine.pl6 348 (by k_asm) | exact Mine.pl7 348 (by k_asm) | exact Mine.pl8 348 (by k_asm) | exact Mine.pl9 348 (by k_asm) | exact Mine.pl10 348 (by k_asm) | exact Mine.pl11 348 (by k_asm) | exact Mine.pl12 348 (by k_asm) | exact Mine.pl13 348 (by k_asm) | exact Mine.pl14 348 (by k_asm) | exact Mine.pl15 348 (by k_asm) | exact Mine.pl16 348 (by k_asm))); (case tb => assumption); (case g => assumption); (case o => assumption); (case np => k_all); (case sb => (intro p hp; repeat (first | exact hp | refine Mine.mem_tl ?_))); (case fq => exact Mine.fqp_of (by k_mem) (by k_mem) (by k_mem) (by k_mem) (by k_mem) (by k_mem) (by k_mem) (by k_mem) (by assumption) (by assumption)))


set_option maxHeartbeats 2000000 in
theorem pl_new_tt {ps : Array Value} {bm : Addr} {ob : Obj} {mg' : Str → Option Value} {prog : Program} {w : World} {p : Program} {loose : List Str} {mg mb : Str → Option Value}
    {dp un : Nat} {gd : Option (List Code)} {env : Env} {outer : List Env} {A₀ : Around} {base h₀ : Heap} {L : Addr} {m : Str → Option Value} {news : List (Addr × Obj)} {s : Shared}
    {Q E : Value → Shared → Prop}
    (B : Below A₀ base outer h₀) (F : Fr h₀ L s.heap m) (X : (hd.heap_39 w.params).In h₀) (N : News h₀ L s.heap ((348, tabO ps) :: news)) (T : TopRead p loose mg mb h₀) (hf : env.frame = some L) (hke : env.scope.kind = .function)
    (hdp : dp + 60 < recursionLimit) (hun : un + 600 < cLine)
    (M : BMod base mainGlobals mg' bm ob) {q c na : Int} {tq tc ta tcl : Tok} {cl ml : Addr} {v0 v1 : Value} {u v : Int} (hP : ∀ p ∈ news, p.1 ≠ 348) (hps : TbOk ⟨288, 28, 288, 80⟩ ps) (hq : 0 < q) (hq2 : q < 1000) (hcl : (cl, tupO #[v0, v1]) ∈ news) (hml : (ml, tupO #[.int c tc, .int na ta]) ∈ news) (h0 : CoefB 335 news v0 u q) (h1 : CoefB 335 news v1 v q)
    (ret : PlR 348 ⟨288, 28, 288, 80⟩ 449 335 h₀ L m news s Q (Int.fmod u q) (Int.fmod v q) c na q) :
    wpAny (model prog w) { handled := none, depth := dp, frames := some (env :: outer), guards := gd, units := un } (call (.ref 449) [.ref cl, .ref ml, .int q tq]) Q E s := by
  have hclP : cl ≠ 348 := hP _ hcl
  k_steps
  all_goals (refine' ret _ _ _ _ ?F ?N ?tb ?np ?sb ?g ?o ?fq; (case F => k_asm); (case N => (first | exact Mine.pl0 348 (by k_asm) | exact Mine.pl1 348 (by k_asm) | exact Mine.pl2 348 (by k_asm) | exact Mine.pl3 348 (by k_asm) | exact Mine.pl4 348 (by k_asm) | exact Mine.pl5 348 (by k_asm) | exact Mine.pl6 348 (by k_asm) | exact Mine.pl7 348 (by k_asm) | exact Mine.pl8 348 (by k_asm) | exact Mine.pl9 348 (by k_asm) | exact Mine.pl10 348 (by k_asm) | exact Mine.pl11 348 (by k_asm) | exact Mine.pl12 348 (by k_asm) | exact Mine.pl13 348 (by k_asm) | exact Mine.pl14 348 (by k_asm) | exact Mine.pl15 348 (by k_asm) | exact Mine.pl16 348 (by k_asm))); (case tb => assumption); (case g => assumption); (case o => assumption); (case np => k_all); (case sb => (intro p hp; repeat (first | exact hp | refine Mine.mem_tl ?_))); (case fq => exact Mine.fqp_of (by k_mem) (by k_mem) (by k_mem) (by k_mem) (by k_mem) (by k_mem) (by k_mem) (by k_mem) (by assumption) (by assumption)))


end Mine

end

section
set_option maxRecDepth 100000
set_option autoImplicit false
set_option linter.unusedVariables false
set_option Elab.async false
set_option maxHeartbeats 4000000
open PySem PySem.W PyProof.Rows PySem.Calls
namespace Mine
theorem noInpSub1 : fillsInplaceSlot (.type "int") "sub" false = pure false := by kernel_rfl
theorem noInpSub2 : fillsInplaceSlot (.type "int") Operator.Sub.info.2 (Operator.Sub == Operator.Add) = pure false := noInpSub1
abbrev fqV (q n : Int) : V := .inst 335 [(Str.ofString "field_modulus", .int q), (Str.ofString "n", .int n)]
section
variable {S : Sx} {c : Cx} {env : Env} {σ : St} {n : Nat} {W : Wd} {m : Str → Option Value} {s : Shared}
theorem VR.fq {q k : Int} {x : Value} (h : VR W (fqV q k) x) : FqIn 335 W.news x k q := by
  cases h with
  | inst h1 h2 h3 => cases h3 with
    | cons a1 a2 => cases a2 with
      | cons b1 b2 => cases b2; cases a1; cases b1; exact FqIn.of h1 h2
theorem VR.fqI {q k : Int} {x : Value} (h : VR W (fqV q k) x) (r : R S c σ W m s) : ∃ a d od, x = .ref a ∧ InstAt s.heap a (instObj 335 d) 335 (some od) := by
  cases h with
  | inst h1 h2 h3 => exact ⟨_, _, _, rfl, InstAt.of_news r.N h1 h2⟩
theorem fqR_of {e q : Int} {Q : Value → Shared → Prop} (r : R S c σ W m s) (k : ∀ u W' m' s', 0 ≤ e → e < q → R S c σ W' m' s' → Gr c [] W W' → VR W' (fqV q e) u → Q u s') : FqR 335 c.h₀ c.L m (c.frz ++ W.news) s Q e q :=
  fun n x d k1 k2 t1 t2 t3 t4 h' tk' he h0 h1 F' N' l1 l2 => by
    subst he
    have hi : ∀ b ∈ c.frz ++ W.news, ∀ q' ∈ [(x, instObj 335 d), (d, dictOf [⟨k1, .str "field_modulus" t1, .int q t2⟩, ⟨k2, .str "n" t3, .int n t4⟩] 2)], b.1 < q'.1 := fun b hb q' hq' => by
      rcases List.mem_cons.mp hq' with rfl | hq'
      · exact Nat.lt_trans (l1 b hb) l2
      · rw [List.mem_singleton.mp hq']; exact l1 b hb
    have g := Gr.next (c := c) (W := W) hi fun q' hq' => by
      rcases List.mem_cons.mp hq' with rfl | hq'
      · exact isi_cls
      · rw [List.mem_singleton.mp hq']; exact dict_cls
    exact k _ _ m _ h0 h1 (r.next F' N' hi) g (.inst (.head _) (.tail _ (.head _)) (.cons .int (.cons .int .nil)))
theorem Ok.lit (O : Ok S c n) : ∃ dp un gd, c.A = { handled := none, depth := dp, frames := some (c.fenv :: c.outer), guards := gd, units := un } ∧ dp + n < recursionLimit ∧ un + 20 * n < cLine := by
  have h1 := O.hA
  have h2 := O.hh
  have h3 := O.hd
  have h4 := O.hu
  rcases hA : c.A with ⟨hd, dp, fr, gd, un⟩
  rw [hA] at h1 h2 h3 h4
  dsimp only at h1 h2 h3 h4
  subst h1 h2
  exact ⟨dp, un, gd, rfl, h3, h4⟩
variable (hK : S.K = hd.heap_39 S.w.params)
include hK
theorem call_fq_new (O : Ok S c n) (hn : 40 ≤ n) {q b : Int} {P : V → St → Prop} (hq : 0 < q) (hq2 : q < 1000) (b0 : -1000000 < b) (b1 : b < 1000000) (h : P (fqV q (Int.fmod b q)) σ) : CallS S c (.old (.ref 335)) [.int b, .int q] σ P := fun W f xs hf hxs m s Q r k => by
  obtain ⟨dp, un, gd, eA, hdp, hun⟩ := O.lit
  cases hf
  cases hxs with
  | cons h1 h2 => cases h2 with
    | cons h2 h3 =>
      cases h3; cases h1; cases h2
      have X := hK ▸ O.X
      rw [eA]
      exact fq_new O.B r.F X r.all O.T O.hf O.hke (by omega) (by omega) hq hq2 b0 b1 (fqR_of r fun u W' m' s' _ _ r' g' v' => k _ u σ W' m' s' h r' g' v')
omit hK in
theorem R.flat (r : R S c σ W m s) {h' : Heap} {tk : Nat} (F' : Fr c.h₀ c.L h' m) (N' : News c.h₀ c.L h' (c.frz ++ W.news)) : R S c σ W m { s with heap := h', toks := tk } :=
  r.next (new := []) F' N' (fun _ _ _ h => nomatch h)
theorem call_pfi (O : Ok S c n) (hn : 40 ≤ n) {a q : Int} {P : V → St → Prop} (hq : 0 < q) (hq2 : q < 1000) (b0 : -1000000 < a) (b1 : a < 1000000) (h : P (.int (pfi a q)) σ) : CallS S c (.old (.ref 28)) [.int a, .int q] σ P := fun W f xs hf hxs m s Q r k => by
  obtain ⟨dp, un, gd, eA, hdp, hun⟩ := O.lit
  cases hf
  cases hxs with
  | cons h1 h2 => cases h2 with
    | cons h2 h3 =>
      cases h3; cases h1; cases h2
      have X := hK ▸ O.X
      rw [eA]
      exact pfi_call O.B r.F X r.all O.T O.hf O.hke (by omega) (by omega) hq hq2 b0 b1 (fun t h' tk' F' N' => k _ _ σ W m _ h (R.flat r F' N') .refl .int)
theorem cmp_fq_eqi (O : Ok S c n) (hn : 40 ≤ n) {q a b : Int} {P : V → St → Prop} (a0 : 0 ≤ a) (a1 : a < q) (b0 : -1000000 < b) (b1 : b < 1000000) (h : P (.bool (a == b)) σ) : CmpS S c .Eq (fqV q a) (.int b) σ P := fun W x y hx hy m s Q r k => by
  obtain ⟨dp, un, gd, eA, hdp, hun⟩ := O.lit
  cases hy
  have X := hK ▸ O.X
  rw [eA]
  exact fq_eqi O.B r.F X r.all O.T O.hf O.hke (by omega) (by omega) (hx.fq.mono fun p hp => List.mem_append_right _ hp) a0 a1 b0 b1 (fun h' tk' F' N' => k _ _ σ W m _ h (R.flat r F' N') .refl .bool)
theorem call_int_fq (O : Ok S c n) (hn : 40 ≤ n) {q a : Int} {P : V → St → Prop} (a0 : 0 ≤ a) (a1 : a < q) (h : P (.int a) σ) : CallS S c (.old (.type "int")) [fqV q a] σ P := fun W f xs hf hxs m s Q r k => by
  obtain ⟨dp, un, gd, eA, hdp, hun⟩ := O.lit
  cases hf
  cases hxs with
  | cons hx h2 =>
    cases h2
    have X := hK ▸ O.X
    rw [eA]
    exact fq_int O.B r.F X r.all O.T O.hf O.hke (by omega) (by omega) (hx.fq.mono fun p hp => List.mem_append_right _ hp) a0 a1 (fun t h' tk' F' N' => k _ _ σ W m _ h (R.flat r F' N') .refl .int)
end
end Mine

end

section
set_option maxRecDepth 100000
set_option autoImplicit false
set_option linter.unusedVariables false
set_option Elab.async false
set_option maxHeartbeats 4000000
open PySem PySem.W PyProof.Rows PySem.Calls
namespace Mine

abbrev plV (q cc na u v : Int) : V := .inst 449 [(Str.ofString "field_modulus", .int q), (Str.ofString "coeffs", .tup [fqV q u, fqV q v]), (Str.ofString "modulus_coeffs", .tup [.int cc, .int na]), (Str.ofString "degree", .int 2)]
def CoefV (q : Int) (a : V) (u : Int) : Prop := (-1000000 < u ∧ u < 1000000) ∧ (a = .int u ∨ (a = fqV q u ∧ 0 ≤ u ∧ u < q))
section
variable {S : Sx} {c : Cx} {env : Env} {σ : St} {n : Nat} {W : Wd} {m : Str → Option Value} {s : Shared}
theorem CoefV.b {q u : Int} {a : V} {x : Value} {led : List (Addr × Obj)} (h : CoefV q a u) (hx : VR W a x) (sub : ∀ p ∈ W.news, lsB p.2 = false → isCel p.2 = false → tabB p.2 = false → p ∈ led) : CoefB 335 led x u q := by
  refine ⟨h.1, ?_⟩
  rcases h.2 with rfl | ⟨rfl, h0, h1⟩
  · cases hx; exact .inl ⟨_, rfl⟩
  · refine .inr ⟨?_, h0, h1⟩
    obtain ⟨a, d, k1, k2, t1, t2, t3, t4, e, e1, e2⟩ := hx.fq
    refine ⟨a, d, k1, k2, t1, t2, t3, t4, e, sub _ e1 ?_ rfl rfl, sub _ e2 ?_ rfl rfl⟩
    · exact beq_eq_false_iff_ne.mpr fun h => nomatch h
    · exact beq_eq_false_iff_ne.mpr fun h => absurd (Value.type.inj h) (by decide)
theorem FqIn.vr {q k : Int} {x : Value} (h : FqIn 335 W.news x k q) : VR W (fqV q k) x := by
  obtain ⟨a, d, k1, k2, t1, t2, t3, t4, rfl, h1, h2⟩ := h
  exact .inst h1 h2 (.cons .int (.cons .int .nil))
theorem FqpIn.vr {q u v cc na : Int} {x : Value} (h : FqpIn 449 335 W.news x u v cc na q) : VR W (plV q cc na u v) x := by
  obtain ⟨a, d, T, M, k1, k2, k3, k4, t1, t2, t3, t4, t5, t6, t7, t8, y0, y1, rfl, h1, h2, h3, h4, h5, h6⟩ := h
  exact .inst h1 h2 (.cons .int (.cons (.tup (xs := [y0, y1]) h3 (.cons (FqIn.vr h4) (.cons (FqIn.vr h5) .nil))) (.cons (.tup (xs := [.int cc t7, .int na t8]) h6 (.cons .int (.cons .int .nil))) (.cons .int .nil))))

def offT (P : Addr) (l : List (Addr × Obj)) : List (Addr × Obj) := l.filter fun p => !(p.1 == P)
theorem offT_mem {P : Addr} {l : List (Addr × Obj)} {p : Addr × Obj} (h : p ∈ l) (hn : p.1 ≠ P) : p ∈ offT P l := List.mem_filter.mpr ⟨h, by simp [beq_eq_false_iff_ne.mpr hn]⟩
theorem offT_ne {P : Addr} {l : List (Addr × Obj)} : ∀ p ∈ offT P l, p.1 ≠ P := fun p h e => by
  have := (List.mem_filter.mp h).2
  rw [e] at this
  simp at this
theorem offT_sub {P : Addr} {l : List (Addr × Obj)} : ∀ p ∈ offT P l, p ∈ l := fun p h => (List.mem_filter.mp h).1

theorem R.turn {P : Addr} {pos : Pos} {ps ps' : Array Value} {news' : List (Addr × Obj)} {s' : Shared} (r : R S c σ W m s) (hfz : c.fz = false) (hfr : c.frz = []) (ht : (P, pos) ∈ S.tabs) (hd : ∀ t ∈ S.tabs, t.1 = P → t.2 = pos) (hp : (P, tabO ps) ∈ W.news)
    (F' : Fr c.h₀ c.L s'.heap m) (N' : News c.h₀ c.L s'.heap ((P, tabO ps') :: news')) (tb : TbOk pos ps') (sub : ∀ p ∈ offT P W.news, p ∈ news') (hg : AllBare s.gens → AllBare s'.gens) (hos : s'.os = s.os) :
    R S c σ ⟨(P, tabO ps') :: news', W.al⟩ m s' ∧ Gr c [] W ⟨(P, tabO ps') :: news', W.al⟩ := by
  have ne : ∀ p ∈ W.news, tabB p.2 = false → p.1 ≠ P := fun p h hb e => by
    have h1 := (r.N p h).1
    rw [e, (r.N _ hp).1] at h1
    rw [← Option.some.inj h1] at hb
    exact Bool.noConfusion (show true = false from hb)
  have mv : ∀ p ∈ W.news, tabB p.2 = false → p ∈ (P, tabO ps') :: news' := fun p h hb => .tail _ (sub p (offT_mem h (ne p h hb)))
  have l : Le [] W ⟨(P, tabO ps') :: news', W.al⟩ := ⟨fun p h k => mv p h k.t, fun _ _ h => h, fun _ h => .inl h, fun p h => by
    by_cases e : p.1 = P
    · exact ⟨_, .head _, e.symm⟩
    · exact ⟨p, .tail _ (sub p (offT_mem h e)), rfl⟩⟩
  have celT : ∀ p : Addr × Obj, isCel p.2 = true → tabB p.2 = false := fun p h => by
    unfold isCel at h; unfold tabB; split
    · rename_i z; rw [z] at h; cases h
    · rfl
  refine ⟨⟨F', N', fun x v e => ?_, fun x hx => ?_, r.cvz, fun x v e => ?_, fun k vs e => ?_, r.len, r.nd, fun p hp => (by rw [hfr] at hp; cases hp), r.fd, fun hz q hq => (by rw [hfr] at hq; cases hq), fun h => (by rw [hfz] at h; cases h), r.mfix, fun hz t h => ?_, fun hz => hg (r.gens hz), hos.trans r.os⟩, l, fun h => (by rw [hfz] at h; cases h)⟩
  · obtain ⟨u, h1, h2⟩ := r.loc x v e
    exact ⟨u, h1.mono l, h2.mono fun p hp hc => mv p hp (celT p hc)⟩
  · obtain ⟨o, v, h1, h2⟩ := r.cel x hx
    exact ⟨o, v, mv _ h1 (by simp [tabB, h2]), h2⟩
  · obtain ⟨u, oC, mC, h1, h2⟩ := r.cv x v e
    exact ⟨u, oC, mC, h1.mono l, h2⟩
  · obtain ⟨a, xs, k', h1, h2, h3⟩ := r.ls k vs e
    exact ⟨a, xs, k', h1, mv _ h2 rfl, h3.mono l⟩
  · by_cases e : t.1 = P
    · have := hd t h e
      exact ⟨ps', by rw [e]; exact .head _, this ▸ tb⟩
    · obtain ⟨ps2, h1, h2⟩ := r.tabs hz t h
      exact ⟨ps2, .tail _ (sub _ (offT_mem h1 e)), h2⟩
theorem plR_of {P : Addr} {pos : Pos} {ps : Array Value} {u v cc na q : Int} {Q : Value → Shared → Prop} (r : R S c σ W m s) (hfz : c.fz = false) (hfr : c.frz = []) (ht : (P, pos) ∈ S.tabs) (hd : ∀ t ∈ S.tabs, t.1 = P → t.2 = pos) (hp : (P, tabO ps) ∈ W.news)
    (k : ∀ x W' m' s', R S c σ W' m' s' → Gr c [] W W' → VR W' (plV q cc na u v) x → Q x s') : PlR P pos 449 335 c.h₀ c.L m (offT P W.news) s Q u v cc na q :=
  fun x news' ps' s' F' N' tb np sub hg hos hf => by
    obtain ⟨r', g'⟩ := r.turn hfz hfr ht hd hp F' N' tb sub hg hos
    exact k _ _ _ _ r' g' (FqpIn.vr (hf.mono fun p h => .tail _ h))
variable (hK : S.K = hd.heap_39 S.w.params) (hT : (348, (⟨288, 28, 288, 80⟩ : Pos)) ∈ S.tabs) (hD : ∀ t ∈ S.tabs, t.1 = 348 → t.2 = (⟨288, 28, 288, 80⟩ : Pos))
include hK hT hD
theorem call_pl_lt (O : Ok S c n) (hn : 60 ≤ n) (hfz : c.fz = false) (hfr : c.frz = []) {q cc na u v : Int} {k1 : Nat} {a0 a1 : V} {P : V → St → Prop} (hq : 0 < q) (hq2 : q < 1000) (h1 : σ.ls[k1]? = some [a0, a1]) (c0 : CoefV q a0 u) (c1 : CoefV q a1 v)
    (h : P (plV q cc na (Int.fmod u q) (Int.fmod v q)) σ) : CallS S c (.old (.ref 449)) [.lst k1, .tup [.int cc, .int na], .int q] σ P := fun W f xs hf hxs m s Q r k => by
  obtain ⟨dp, un, gd, eA, hdp, hun⟩ := O.lit
  cases hf
  cases hxs with
  | cons b1 z => cases z with
    | cons b2 z => cases z with
      | cons b3 z =>
        cases z; cases b3
        have X := hK ▸ O.X
        obtain ⟨x1, ys1, n1, rfl, d1, d2, d3⟩ := r.lstAt h1 b1
        obtain ⟨x2, ys2, rfl, e2, e3, _⟩ := b2.isTup r
        cases d3 with
        | cons p1 z => cases z with
          | cons p2 z =>
            cases z
            cases e3 with
            | cons p3 z => cases z with
              | cons p4 z =>
                cases z; cases p3; cases p4
                obtain ⟨ps, t1, t2⟩ := r.tabs hfz _ hT
                have ne : ∀ p ∈ W.news, tabB p.2 = false → p.1 ≠ 348 := fun p h hb e => by
                  have h1 := (r.N p h).1
                  rw [e, (r.N _ t1).1] at h1
                  rw [← Option.some.inj h1] at hb
                  exact Bool.noConfusion (show true = false from hb)
                have sub : ∀ p ∈ W.news, lsB p.2 = false → isCel p.2 = false → tabB p.2 = false → p ∈ offT 348 W.news := fun p h _ _ hb => offT_mem h (ne p h hb)
                rw [eA]
                exact pl_new_lt (tcl := 0) O.B r.F X (fun p hp => by
                  rcases List.mem_cons.mp hp with rfl | hp
                  · exact r.N _ t1
                  · exact r.N p (offT_sub p hp)) O.T O.hf O.hke (by omega) (by omega) O.M offT_ne t2 hq hq2 (offT_mem d2 (ne _ d2 rfl)) (offT_mem e2 (ne _ e2 rfl)) (c0.b p1 sub) (c1.b p2 sub) (plR_of r hfz hfr hT hD t1 fun x W' m' s' r' g' v' => k _ x σ W' m' s' h r' g' v')
theorem call_pl_tt (O : Ok S c n) (hn : 60 ≤ n) (hfz : c.fz = false) (hfr : c.frz = []) {q cc na u v : Int} {a0 a1 : V} {P : V → St → Prop} (hq : 0 < q) (hq2 : q < 1000) (c0 : CoefV q a0 u) (c1 : CoefV q a1 v)
    (h : P (plV q cc na (Int.fmod u q) (Int.fmod v q)) σ) : CallS S c (.old (.ref 449)) [.tup [a0, a1], .tup [.int cc, .int na], .int q] σ P := fun W f xs hf hxs m s Q r k => by
  obtain ⟨dp, un, gd, eA, hdp, hun⟩ := O.lit
  cases hf
  cases hxs with
  | cons b1 z => cases z with
    | cons b2 z => cases z with
      | cons b3 z =>
        cases z; cases b3
        have X := hK ▸ O.X
        obtain ⟨x1, ys1, rfl, d2, d3, _⟩ := b1.isTup r
        obtain ⟨x2, ys2, rfl, e2, e3, _⟩ := b2.isTup r
        cases d3 with
        | cons p1 z => cases z with
          | cons p2 z =>
            cases z
            cases e3 with
            | cons p3 z => cases z with
              | cons p4 z =>
                cases z; cases p3; cases p4
                obtain ⟨ps, t1, t2⟩ := r.tabs hfz _ hT
                have ne : ∀ p ∈ W.news, tabB p.2 = false → p.1 ≠ 348 := fun p h hb e => by
                  have h1 := (r.N p h).1
                  rw [e, (r.N _ t1).1] at h1
                  rw [← Option.some.inj h1] at hb
                  exact Bool.noConfusion (show true = false from hb)
                have sub : ∀ p ∈ W.news, lsB p.2 = false → isCel p.2 = false → tabB p.2 = false → p ∈ offT 348 W.news := fun p h _ _ hb => offT_mem h (ne p h hb)
                rw [eA]
                exact pl_new_tt (tcl := 0) O.B r.F X (fun p hp => by
                  rcases List.mem_cons.mp hp with rfl | hp
                  · exact r.N _ t1
                  · exact r.N p (offT_sub p hp)) O.T O.hf O.hke (by omega) (by omega) O.M offT_ne t2 hq hq2 (offT_mem d2 (ne _ d2 rfl)) (offT_mem e2 (ne _ e2 rfl)) (c0.b p1 sub) (c1.b p2 sub) (plR_of r hfz hfr hT hD t1 fun x W' m' s' r' g' v' => k _ x σ W' m' s' h r' g' v')
end
end Mine

end

section
set_option maxRecDepth 100000
set_option autoImplicit false
set_option linter.unusedVariables false
set_option Elab.async false
set_option maxHeartbeats 4000000
open PySem PySem.W PyProof.Rows PySem.Calls
namespace Mine
structure AttOk (K : Frag) (C : Addr) (name : Str) : Prop where
  hg : plainGet K C name = true
  hh : hasDictIn K C = true
  ex : ∃ attr, findIn K (.ref C) name = some attr ∧ noGet K attr = true
structure MthOk (K : Frag) (C : Addr) (name : Str) (f : Addr) : Prop where
  hg : plainGet K C name = true
  hf : findIn K (.ref C) name = some (some (.ref f))
  ht : isFn K (.ref f) = true
  hk : keepIn K (.ref f) = true
theorem g_deg (P : Params) : nsIn (hd.heap_39 P) mainGlobals "deg" = some (some (.ref 35)) := by k_is
theorem kp_deg (P : Params) : keepIn (hd.heap_39 P) (.ref 35) = true := by k_is
theorem g_poly_rounded_div (P : Params) : nsIn (hd.heap_39 P) mainGlobals "poly_rounded_div" = some (some (.ref 40)) := by k_is
theorem kp_poly_rounded_div (P : Params) : keepIn (hd.heap_39 P) (.ref 40) = true := by k_is
theorem g_prime_field_inv (P : Params) : nsIn (hd.heap_39 P) mainGlobals "prime_field_inv" = some (some (.ref 28)) := by k_is
theorem kp_prime_field_inv (P : Params) : keepIn (hd.heap_39 P) (.ref 28) = true := by k_is
theorem g_FQ (P : Params) : nsIn (hd.heap_39 P) mainGlobals "FQ" = some (some (.ref 335)) := by k_is
theorem kp_FQ (P : Params) : keepIn (hd.heap_39 P) (.ref 335) = true := by k_is
theorem g_FQP_field_elements (P : Params) : nsIn (hd.heap_39 P) mainGlobals "FQP_field_elements" = some (some (.ref 449)) := by k_is
theorem kp_FQP_field_elements (P : Params) : keepIn (hd.heap_39 P) (.ref 449) = true := by k_is
theorem g_FQP_optimized_field_elements (P : Params) : nsIn (hd.heap_39 P) mainGlobals "FQP_optimized_field_elements" = some (some (.ref 161)) := by k_is
theorem kp_FQP_optimized_field_elements (P : Params) : keepIn (hd.heap_39 P) (.ref 161) = true := by k_is
theorem g_FQ2 (P : Params) : nsIn (hd.heap_39 P) mainGlobals "FQ2" = some (some (.ref 190)) := by k_is
theorem kp_FQ2 (P : Params) : keepIn (hd.heap_39 P) (.ref 190) = true := by k_is
theorem g__law_primes (P : Params) : nsIn (hd.heap_39 P) mainGlobals "_law_primes" = some (some (.ref 460)) := by k_is
theorem kp__law_primes (P : Params) : keepIn (hd.heap_39 P) (.ref 460) = true := by k_is
theorem g__law_at (P : Params) : nsIn (hd.heap_39 P) mainGlobals "_law_at" = some (some (.ref 467)) := by k_is
theorem kp__law_at (P : Params) : keepIn (hd.heap_39 P) (.ref 467) = true := by k_is
theorem g__law_made (P : Params) : nsIn (hd.heap_39 P) mainGlobals "_law_made" = some (some (.ref 474)) := by k_is
theorem kp__law_made (P : Params) : keepIn (hd.heap_39 P) (.ref 474) = true := by k_is
theorem g__law_plain (P : Params) : nsIn (hd.heap_39 P) mainGlobals "_law_plain" = some (some (.ref 479)) := by k_is
theorem kp__law_plain (P : Params) : keepIn (hd.heap_39 P) (.ref 479) = true := by k_is
theorem g__law_point (P : Params) : nsIn (hd.heap_39 P) mainGlobals "_law_point" = some (some (.ref 486)) := by k_is
theorem g__law_turn (P : Params) : nsIn (hd.heap_39 P) mainGlobals "_law_turn" = some (some (.ref 493)) := by k_is
theorem g__law_common (P : Params) : nsIn (hd.heap_39 P) mainGlobals "_law_common" = some (some (.ref 500)) := by k_is
theorem kp__law_point (P : Params) : keepIn (hd.heap_39 P) (.ref 486) = true := by k_is
theorem kp__law_turn (P : Params) : keepIn (hd.heap_39 P) (.ref 493) = true := by k_is
theorem kp__law_common (P : Params) : keepIn (hd.heap_39 P) (.ref 500) = true := by k_is
theorem b_len (P : Params) : nsIn (hd.heap_39 P) mainGlobals "len" = some none := by k_is
theorem bb_len : bootBuiltins "len" = some (.builtin "len") := by boot_fast
theorem b_range (P : Params) : nsIn (hd.heap_39 P) mainGlobals "range" = some none := by k_is
theorem bb_range : bootBuiltins "range" = some (.type "range") := by boot_fast
theorem b_int (P : Params) : nsIn (hd.heap_39 P) mainGlobals "int" = some none := by k_is
theorem bb_int : bootBuiltins "int" = some (.type "int") := by boot_fast
theorem b_isinstance (P : Params) : nsIn (hd.heap_39 P) mainGlobals "isinstance" = some none := by k_is
theorem bb_isinstance : bootBuiltins "isinstance" = some (.builtin "isinstance") := by boot_fast
theorem b_list (P : Params) : nsIn (hd.heap_39 P) mainGlobals "list" = some none := by k_is
theorem bb_list : bootBuiltins "list" = some (.type "list") := by boot_fast
theorem b_tuple (P : Params) : nsIn (hd.heap_39 P) mainGlobals "tuple" = some none := by k_is
theorem bb_tuple : bootBuiltins "tuple" = some (.type "tuple") := by boot_fast
theorem b_enumerate (P : Params) : nsIn (hd.heap_39 P) mainGlobals "enumerate" = some none := by k_is
theorem bb_enumerate : bootBuiltins "enumerate" = some (.type "enumerate") := by boot_fast
theorem b_zip (P : Params) : nsIn (hd.heap_39 P) mainGlobals "zip" = some none := by k_is
theorem bb_zip : bootBuiltins "zip" = some (.type "zip") := by boot_fast
theorem b_pow (P : Params) : nsIn (hd.heap_39 P) mainGlobals "pow" = some none := by k_is
theorem b_max (P : Params) : nsIn (hd.heap_39 P) mainGlobals "max" = some none := by k_is
theorem b_sorted (P : Params) : nsIn (hd.heap_39 P) mainGlobals "sorted" = some none := by k_is
theorem bb_pow : bootBuiltins "pow" = some (.builtin "pow") := by boot_fast
theorem bb_max : bootBuiltins "max" = some (.builtin "max") := by boot_fast
theorem bb_sorted : bootBuiltins "sorted" = some (.builtin "sorted") := by boot_fast
theorem at_183_field_modulus (P : Params) : AttOk (hd.heap_39 P) 335 "field_modulus" := ⟨by k_is, by k_is, _, by k_is, by k_is⟩
theorem at_183_n (P : Params) : AttOk (hd.heap_39 P) 335 "n" := ⟨by k_is, by k_is, _, by k_is, by k_is⟩
theorem at_297_field_modulus (P : Params) : AttOk (hd.heap_39 P) 449 "field_modulus" := ⟨by k_is, by k_is, _, by k_is, by k_is⟩
theorem at_297_coeffs (P : Params) : AttOk (hd.heap_39 P) 449 "coeffs" := ⟨by k_is, by k_is, _, by k_is, by k_is⟩
theorem at_297_modulus_coeffs (P : Params) : AttOk (hd.heap_39 P) 449 "modulus_coeffs" := ⟨by k_is, by k_is, _, by k_is, by k_is⟩
theorem at_297_degree (P : Params) : AttOk (hd.heap_39 P) 449 "degree" := ⟨by k_is, by k_is, _, by k_is, by k_is⟩
theorem at_422_field_modulus (P : Params) : AttOk (hd.heap_39 P) 161 "field_modulus" := ⟨by k_is, by k_is, _, by k_is, by k_is⟩
theorem at_422_coeffs (P : Params) : AttOk (hd.heap_39 P) 161 "coeffs" := ⟨by k_is, by k_is, _, by k_is, by k_is⟩
theorem at_422_modulus_coeffs (P : Params) : AttOk (hd.heap_39 P) 161 "modulus_coeffs" := ⟨by k_is, by k_is, _, by k_is, by k_is⟩
theorem at_422_degree (P : Params) : AttOk (hd.heap_39 P) 161 "degree" := ⟨by k_is, by k_is, _, by k_is, by k_is⟩
theorem at_422_mc_tuples (P : Params) : AttOk (hd.heap_39 P) 161 "mc_tuples" := ⟨by k_is, by k_is, _, by k_is, by k_is⟩
theorem at_451_field_modulus (P : Params) : AttOk (hd.heap_39 P) 190 "field_modulus" := ⟨by k_is, by k_is, _, by k_is, by k_is⟩
theorem at_451_coeffs (P : Params) : AttOk (hd.heap_39 P) 190 "coeffs" := ⟨by k_is, by k_is, _, by k_is, by k_is⟩
theorem at_451_modulus_coeffs (P : Params) : AttOk (hd.heap_39 P) 190 "modulus_coeffs" := ⟨by k_is, by k_is, _, by k_is, by k_is⟩
theorem at_451_degree (P : Params) : AttOk (hd.heap_39 P) 190 "degree" := ⟨by k_is, by k_is, _, by k_is, by k_is⟩
theorem at_451_mc_tuples (P : Params) : AttOk (hd.heap_39 P) 190 "mc_tuples" := ⟨by k_is, by k_is, _, by k_is, by k_is⟩
theorem mt_183_made (P : Params) : MthOk (hd.heap_39 P) 335 "made" 318 := ⟨by k_is, by k_is, by k_is, by k_is⟩
theorem mt_297_made (P : Params) : MthOk (hd.heap_39 P) 449 "made" 360 := ⟨by k_is, by k_is, by k_is, by k_is⟩
theorem mt_297_FQP_corresponding_FQ_class (P : Params) : MthOk (hd.heap_39 P) 449 "FQP_corresponding_FQ_class" 367 := ⟨by k_is, by k_is, by k_is, by k_is⟩
theorem mt_297_inv (P : Params) : MthOk (hd.heap_39 P) 449 "inv" 406 := ⟨by k_is, by k_is, by k_is, by k_is⟩
theorem mt_422_made (P : Params) : MthOk (hd.heap_39 P) 161 "made" 59 := ⟨by k_is, by k_is, by k_is, by k_is⟩
theorem mt_422_inv (P : Params) : MthOk (hd.heap_39 P) 161 "inv" 110 := ⟨by k_is, by k_is, by k_is, by k_is⟩
theorem mt_422_optimized_poly_rounded_div (P : Params) : MthOk (hd.heap_39 P) 161 "optimized_poly_rounded_div" 105 := ⟨by k_is, by k_is, by k_is, by k_is⟩
theorem mt_451_made (P : Params) : MthOk (hd.heap_39 P) 190 "made" 179 := ⟨by k_is, by k_is, by k_is, by k_is⟩
theorem mt_451_inv (P : Params) : MthOk (hd.heap_39 P) 190 "inv" 110 := ⟨by k_is, by k_is, by k_is, by k_is⟩
theorem mt_451_optimized_poly_rounded_div (P : Params) : MthOk (hd.heap_39 P) 190 "optimized_poly_rounded_div" 105 := ⟨by k_is, by k_is, by k_is, by k_is⟩
theorem oc_183 (P : Params) : OwnCls (hd.heap_39 P) 335 := ⟨by k_is, by k_is, by k_is, by k_is, by k_is, by k_is⟩
theorem oc_297 (P : Params) : OwnCls (hd.heap_39 P) 449 := ⟨by k_is, by k_is, by k_is, by k_is, by k_is, by k_is⟩
theorem oc_422 (P : Params) : OwnCls (hd.heap_39 P) 161 := ⟨by k_is, by k_is, by k_is, by k_is, by k_is, by k_is⟩
theorem oc_451 (P : Params) : OwnCls (hd.heap_39 P) 190 := ⟨by k_is, by k_is, by k_is, by k_is, by k_is, by k_is⟩
theorem ko_int_int (P : Params) : kitOne (hd.heap_39 P) (.type "int") (.type "int") = some true := by kit_is
theorem ko_int_183 (P : Params) : kitOne (hd.heap_39 P) (.type "int") (.ref 335) = some false := by kit_is
theorem ko_183_int (P : Params) : kitOne (hd.heap_39 P) (.ref 335) (.type "int") = some false := by kit_is
theorem ko_183_183 (P : Params) : kitOne (hd.heap_39 P) (.ref 335) (.ref 335) = some true := by kit_is
theorem ko_183_297 (P : Params) : kitOne (hd.heap_39 P) (.ref 335) (.ref 449) = some false := by kit_is
theorem ko_183_422 (P : Params) : kitOne (hd.heap_39 P) (.ref 335) (.ref 161) = some false := by kit_is
theorem ko_297_297 (P : Params) : kitOne (hd.heap_39 P) (.ref 449) (.ref 449) = some true := by kit_is
theorem ko_422_int (P : Params) : kitOne (hd.heap_39 P) (.ref 161) (.type "int") = some false := by kit_is
theorem ko_422_422 (P : Params) : kitOne (hd.heap_39 P) (.ref 161) (.ref 161) = some true := by kit_is
theorem ko_451_int (P : Params) : kitOne (hd.heap_39 P) (.ref 190) (.type "int") = some false := by kit_is
theorem ko_451_422 (P : Params) : kitOne (hd.heap_39 P) (.ref 190) (.ref 161) = some true := by kit_is
theorem ka_int (P : Params) : kitAny (hd.heap_39 P) (.type "int") [.type "int", .ref 335] = some true := by kit_is
theorem ka_183 (P : Params) : kitAny (hd.heap_39 P) (.ref 335) [.type "int", .ref 335] = some true := by kit_is
theorem ka_297 (P : Params) : kitAny (hd.heap_39 P) (.ref 449) [.type "int", .ref 335] = some false := by kit_is
section
variable {S : Sx} {c : Cx} {env : Env} {σ : St} {n : Nat} (hK : S.K = hd.heap_39 S.w.params)
include hK
theorem evG (O : Ok S c n) {x : Str} {pos : Pos} {v : Value} {P : V → St → Prop} {E : Env} (hE : c.fenv = E) (hk : E.kindOf x = some .globalImplicit) (hdb : (x == ("__debug__" : Str)) = false) (e : nsIn (hd.heap_39 S.w.params) mainGlobals x = some (some v)) (h : P (.old v) σ) :
    EvS S c c.fenv (.Name x pos) σ P := ev_glob O hE hk (hK ▸ e) hdb h
theorem evB (O : Ok S c n) {x : Str} {pos : Pos} {v : Value} {P : V → St → Prop} {E : Env} (hE : c.fenv = E) (hk : E.kindOf x = some .globalImplicit) (hdb : (x == ("__debug__" : Str)) = false) (e : nsIn (hd.heap_39 S.w.params) mainGlobals x = some none) (hv : bootBuiltins x = some v) (hn : x ≠ "__name__") (h : P (.old v) σ) :
    EvS S c c.fenv (.Name x pos) σ P := ev_blt O hE hk (hK ▸ e) hv hn hdb h
theorem cevG (O : Ok S c n) {sc : Scope} {cl : List (Str × Addr)} {x : Str} {pos : Pos} {v : Value} {P : V → St → Prop} {E : Env} (hE : c.fenv = E) (hks : sc.kind = .function) (hk : (compEnvC sc cl c.C E).kindOf x = some .globalImplicit) (hdb : (x == ("__debug__" : Str)) = false) (e : nsIn (hd.heap_39 S.w.params) mainGlobals x = some (some v)) (h : P (.old v) σ) :
    EvS S c (compEnvC sc cl c.C c.fenv) (.Name x pos) σ P := cev_glob O hE hks hk (hK ▸ e) hdb h
theorem cevB (O : Ok S c n) {sc : Scope} {cl : List (Str × Addr)} {x : Str} {pos : Pos} {v : Value} {P : V → St → Prop} {E : Env} (hE : c.fenv = E) (hks : sc.kind = .function) (hk : (compEnvC sc cl c.C E).kindOf x = some .globalImplicit) (hdb : (x == ("__debug__" : Str)) = false) (e : nsIn (hd.heap_39 S.w.params) mainGlobals x = some none) (hv : bootBuiltins x = some v) (hn : x ≠ "__name__") (h : P (.old v) σ) :
    EvS S c (compEnvC sc cl c.C c.fenv) (.Name x pos) σ P := cev_blt O hE hks hk (hK ▸ e) hv hn hdb h
theorem attX (O : Ok S c n) {C : Addr} {fs : List (Str × V)} {name : Str} {v : V} {P : V → St → Prop} (X : AttOk (hd.heap_39 S.w.params) C name) (hl : fs.lookup name = some v) (hv : notOld v = true) (h : P v σ) : AttS S c (.inst C fs) name σ P := by
  rw [← hK] at X
  obtain ⟨a, h1, h2⟩ := X.ex
  exact att_own O hl X.hg X.hh h1 h2 hv h
theorem mthX (O : Ok S c n) {C f : Addr} {fs : List (Str × V)} {name : Str} {P : V → List V → Prop} (X : MthOk (hd.heap_39 S.w.params) C name f) (hl : fs.lookup name = none) (h : P (.old (.ref f)) [.inst C fs]) : MthS S c (.inst C fs) name σ P := by
  rw [← hK] at X
  exact mth_inst O hl X.hg X.hf X.ht h
theorem cwX0 (O : Ok S c n) {pos : Pos} {f : Value} {first : List V} {P : V → St → Prop} (hk : keepIn (hd.heap_39 S.w.params) f = true) (h : CallS S c (.old f) first σ P) : CwS S c env pos (.old f) first [] σ P := cw_K0 O (hK ▸ hk) h
theorem cwXn (O : Ok S c n) {pos : Pos} {f : Value} {e : Expr} {rest : List Expr} {P : V → St → Prop} (hk : keepIn (hd.heap_39 S.w.params) f = true) (he : starEach (e :: rest) env = (false, eval e env) :: starEach rest env) (hp : (backTo pos (starEach rest env)).any (·.1) = false)
    (h : EvsS S c env pos (e :: rest) σ fun vs σ₁ => CallS S c (.old f) vs σ₁ P) : CwS S c env pos (.old f) [] (e :: rest) σ P := cw_K O (hK ▸ hk) he hp h
theorem cwX1 (O : Ok S c n) {pos : Pos} {f : Value} {a : V} {e : Expr} {rest : List Expr} {P : V → St → Prop} (hk : keepIn (hd.heap_39 S.w.params) f = true) (he : starEach (e :: rest) env = (false, eval e env) :: starEach rest env) (hp : (backTo pos (starEach rest env)).any (·.1) = false)
    (h : EvsS S c env pos (e :: rest) σ fun vs σ₁ => CallS S c (.old f) (a :: vs) σ₁ P) : CwS S c env pos (.old f) [a] (e :: rest) σ P := cw_K O (hK ▸ hk) he hp h
omit hK in
theorem cwBn {pos : Pos} {id : String} {e : Expr} {rest : List Expr} {P : V → St → Prop} (he : starEach (e :: rest) env = (false, eval e env) :: starEach rest env) (hp : (backTo pos (starEach rest env)).any (·.1) = false)
    (h : EvsS S c env pos (e :: rest) σ fun vs σ₁ => CallS S c (.old (.builtin id)) vs σ₁ P) : CwS S c env pos (.old (.builtin id)) [] (e :: rest) σ P := cw_B trivial he hp h
omit hK in
theorem cwTn {pos : Pos} {id : String} {e : Expr} {rest : List Expr} {P : V → St → Prop} (he : starEach (e :: rest) env = (false, eval e env) :: starEach rest env) (hp : (backTo pos (starEach rest env)).any (·.1) = false)
    (h : EvsS S c env pos (e :: rest) σ fun vs σ₁ => CallS S c (.old (.type id)) vs σ₁ P) : CwS S c env pos (.old (.type id)) [] (e :: rest) σ P := cw_T he hp h
theorem isiII (O : Ok S c n) {i : Int} {C : Value} {b : Bool} {P : V → St → Prop} (e : kitOne (hd.heap_39 S.w.params) (.type "int") C = some b) (h : P (.bool b) σ) : CallS S c (.old (.builtin "isinstance")) [.int i, .old C] σ P := call_isi_int O (hK ▸ e) h
theorem isiOI (O : Ok S c n) {D : Addr} {fs : List (Str × V)} {C : Value} {b : Bool} {P : V → St → Prop} (X : OwnCls (hd.heap_39 S.w.params) D) (e : kitOne (hd.heap_39 S.w.params) (.ref D) C = some b) (h : P (.bool b) σ) : CallS S c (.old (.builtin "isinstance")) [.inst D fs, .old C] σ P := call_isi_inst O (hK ▸ X) (hK ▸ e) h
theorem isiIT (O : Ok S c n) {i : Int} {cs : List V} {b : Bool} {P : V → St → Prop} (ho : (cs.all fun v => !notOld v) = true) (e : kitAny (hd.heap_39 S.w.params) (.type "int") (cs.map oldOf) = some b) (h : P (.bool b) σ) : CallS S c (.old (.builtin "isinstance")) [.int i, .tup cs] σ P := call_isi_int_tup O ho (hK ▸ e) h
theorem isiOT (O : Ok S c n) {D : Addr} {fs : List (Str × V)} {cs : List V} {b : Bool} {P : V → St → Prop} (X : OwnCls (hd.heap_39 S.w.params) D) (ho : (cs.all fun v => !notOld v) = true) (e : kitAny (hd.heap_39 S.w.params) (.ref D) (cs.map oldOf) = some b) (h : P (.bool b) σ) : CallS S c (.old (.builtin "isinstance")) [.inst D fs, .tup cs] σ P := call_isi_inst_tup O (hK ▸ X) ho (hK ▸ e) h
theorem callFn (O : Ok S c (n + 1)) {f : Addr} {qual : Str} {names : List Str} {body : List Stmt} {scope : Scope} {cdv : Value} {vs : List V} {P : V → St → Prop} {fr : List (Addr × Obj)}
  {name : Str} {params : Arguments} {dV kV doc pm ct oc : Value} {an od : Option Addr} {osl : Array (Option Value)}
  (k1 : (hd.heap_39 S.w.params).lookup f = some ⟨oc, od, .func (fnOf name qual params body scope dV kV doc pm an cdv ct), osl⟩)
  (k2 : ∀ xs : List Value, xs.length = names.length → bindArgs (fnOf name qual params body scope dV kV doc pm an cdv ct) ⟨xs, []⟩ = pure (names.zip xs))
  (k3 : codeIn (hd.heap_39 S.w.params) cdv qual = true) (k4 : names.Nodup)
  (k5 : (names.all fun x => (scope.names.lookup x == some .local && !((cellsFrom 0 scope.names []).lookup x).isSome) || (scope.names.lookup x == some .cell && ((cellsFrom 0 scope.names []).lookup x).isSome)) = true)
  (k6 : ((cellsFrom 0 scope.names []).map (·.1)).Nodup) (k7 : scope.isCoroutine = false) (k8 : scope.isGenerator = false) (k9 : scope.kind = .function)
  (hl : vs.length = names.length) (hcz : c.fz = false ∨ cellsFrom 0 scope.names [] = []) (hfr : (c.fz = false ∧ fr = []) ∨ c.frz = fr)
    (h : ∀ c' : Cx, c'.fenv = envOfC qual scope c'.L f cdv → c'.fz = c.fz → c'.frz = fr → c'.el = false → Ok S c' n → BlS S c' body ⟨names.zip vs, [], σ.ls⟩ fun fl σ' => P (flV fl) { σ with ls := σ'.ls }) :
    CallS S c (.old (.ref f)) vs σ P :=
  call_fn O ⟨⟨_, _, _, _, _, _, _, _, _, _, _, by rw [hK]; exact k1, k2⟩, by rw [hK]; exact k3, k4, k5, k6, k7, k8, k9⟩ hl hcz hfr h
end
end Mine

end

section
set_option maxRecDepth 100000
set_option autoImplicit false
set_option linter.unusedVariables false
namespace Mine
open PySem PySem.W PyProof.Rows PySem.Calls PyProof.Rows.LCg
mutual
def noLst : V → Bool
  | .tup vs => noLsts vs
  | .lst _ => false
  | .inst _ fs => noLstF fs
  | .flst vs => noLsts vs
  | _ => true
def noLsts : List V → Bool
  | [] => true
  | v :: vs => noLst v && noLsts vs
def noLstF : List (Str × V) → Bool
  | [] => true
  | (_, v) :: fs => noLst v && noLstF fs
end

structure Fg (W W' : Wd) : Prop where
  k : W'.news = W.news
  al : ∀ a ∈ W'.al, a ∈ W.al
mutual
theorem VR.fg {W W' : Wd} (g : Fg W W') : ∀ {v : V} {x : Value}, noLst v = true → VR W v x → VR W' v x
  | _, _, _, .int => .int
  | _, _, _, .bool => .bool
  | _, _, _, .old => .old
  | _, _, k, .tup h q => .tup (g.k ▸ h) (VRs.fg g (by simpa only [noLst] using k) q)
  | _, _, k, .lst h => by cases k
  | _, _, k, .inst h h' q => .inst (g.k ▸ h) (g.k ▸ h') (FRs.fg g (by simpa only [noLst] using k) q)
  | _, _, k, .flst h h' q => .flst (g.k ▸ h) (fun m => h' (g.al _ m)) (VRs.fg g (by simpa only [noLst] using k) q)
  | _, _, _, .rng h => .rng (g.k ▸ h)
theorem VRs.fg {W W' : Wd} (g : Fg W W') : ∀ {v : List V} {x : List Value}, noLsts v = true → VRs W v x → VRs W' v x
  | _, _, _, .nil => .nil
  | _, _, k, .cons h q => by
    rw [noLsts, Bool.and_eq_true] at k
    exact .cons (VR.fg g k.1 h) (VRs.fg g k.2 q)
theorem FRs.fg {W W' : Wd} (g : Fg W W') : ∀ {v : List (Str × V)} {x : List DictEntry}, noLstF v = true → FRs W v x → FRs W' v x
  | _, _, _, .nil => .nil
  | _, _, k, .cons h q => by
    rw [noLstF, Bool.and_eq_true] at k
    exact .cons (VR.fg g k.1 h) (FRs.fg g k.2 q)
end

structure Fh (W₀ W W' : Wd) : Prop extends Fg W W' where
  at' : ∀ (k : Nat) (a : Addr), W₀.al[k]? = some a → W'.al[k]? = W.al[k]?
mutual
theorem VR.fh {W₀ W W' : Wd} (g : Fh W₀ W W') : ∀ {v : V} {x y : Value}, VR W₀ v x → VR W v y → VR W' v y
  | _, _, _, .int, .int => .int
  | _, _, _, .bool, .bool => .bool
  | _, _, _, .old, .old => .old
  | _, _, _, .tup _ q, .tup h' q' => .tup (g.k ▸ h') (VRs.fh g q q')
  | _, _, _, .lst h, .lst h' => .lst ((g.at' _ _ h).trans h')
  | _, _, _, .inst _ _ q, .inst h h' q' => .inst (g.k ▸ h) (g.k ▸ h') (FRs.fh g q q')
  | _, _, _, .flst _ _ q, .flst h h' q' => .flst (g.k ▸ h) (fun m => h' (g.al _ m)) (VRs.fh g q q')
  | _, _, _, .rng _, .rng h => .rng (g.k ▸ h)
theorem VRs.fh {W₀ W W' : Wd} (g : Fh W₀ W W') : ∀ {v : List V} {x y : List Value}, VRs W₀ v x → VRs W v y → VRs W' v y
  | _, _, _, .nil, .nil => .nil
  | _, _, _, .cons h q, .cons h' q' => .cons (VR.fh g h h') (VRs.fh g q q')
theorem FRs.fh {W₀ W W' : Wd} (g : Fh W₀ W W') : ∀ {v : List (Str × V)} {x y : List DictEntry}, FRs W₀ v x → FRs W v y → FRs W' v y
  | _, _, _, .nil, .nil => .nil
  | _, _, _, .cons h q, .cons h' q' => .cons (VR.fh g h h') (FRs.fh g q q')
end
theorem isCel_tab {o : Obj} (h : isCel o = true) : tabB o = false := by
  unfold isCel at h; unfold tabB; split
  · rename_i z; rw [z] at h; cases h
  · rfl
section
variable {S : Sx} {c : Cx} {env : Env} {σ : St} {n : Nat}

def drK (σ : St) (P : V → St → Prop) : V → St → Prop := fun v σ' =>
  (∃ g, σ'.ls = σ.ls ++ g) ∧ match v with
    | .lst k => ∃ j ws, k = σ.ls.length + j ∧ σ'.ls[k]? = some ws ∧ noLsts ws = true ∧ NewK σ ws P
    | v => noLst v = true ∧ P v σ
theorem call_dr (O : Ok S c n) (f : Value) {vs : List V} {P : V → St → Prop}
    (h : ∀ c' : Cx, c'.fz = c.fz → c'.frz = c.frz → c'.fenv = c.fenv → Ok S c' n → CallS S c' (.old f) vs ⟨[], [], σ.ls⟩ (drK σ P)) :
    CallS S c (.old f) vs σ P := fun W x xs hx hxs m s Q r q => by
  cases hx
  let c' : Cx := { c with el := true, mm := m }
  have O' : Ok S c' n := ⟨O.B, O.X, O.T, O.M, O.hA, O.hf, O.hke, O.hh, O.hd, O.hu, O.hl, O.hg, O.hb, O.hcd, O.old⟩
  have r' : R S c' ⟨[], [], σ.ls⟩ W m s := ⟨r.F, r.N, (fun _ _ e => nomatch e), r.cel, fun _ _ => rfl, (fun _ _ e => nomatch e), r.ls, r.len, r.nd, r.fz, r.fd, r.fx, r.calm, fun _ => rfl, r.tabs, r.gens, r.os⟩
  refine h c' rfl rfl rfl O' W f xs .old hxs m s Q r' fun v b σ2 W2 m2 s2 hP r2 g2 e2 => ?_
  have em : m2 = m := r2.mfix rfl
  subst em
  obtain ⟨⟨g, hg⟩, hv⟩ := hP
  have len2 : W2.al.length = σ2.ls.length := r2.len
  have hle : W.al.length ≤ W2.al.length := by rw [len2, hg, List.length_append, r.len]; exact Nat.le_add_right _ _
  have alP : W2.al.take W.al.length = W.al := by
    apply List.ext_getElem?
    intro i
    by_cases hi : i < W.al.length
    · rw [List.getElem?_take_of_lt hi, g2.le.al i _ (List.getElem?_eq_getElem hi), List.getElem?_eq_getElem hi]
    · rw [List.getElem?_eq_none (by rw [List.length_take]; omega), List.getElem?_eq_none (by omega)]
  have cel0 : ∀ p ∈ W.news, isCel p.2 = true → p ∈ W2.news := fun p hp hc => g2.le.k p hp ⟨(fun hl hm => by
      obtain ⟨i, hi, e⟩ := List.getElem_of_mem hm
      have hl' : i < σ.ls.length := by rw [← r.len]; exact hi
      obtain ⟨a', ys, k', j1, j2, _⟩ := r.ls i _ (List.getElem?_eq_getElem hl')
      rw [List.getElem?_eq_getElem hi, e] at j1
      cases j1
      have z1 := (r.N _ j2).1
      have z2 := (r.N _ hp).1
      rw [z2] at z1
      have z3 : p.2 = _ := Option.some.inj z1
      rw [z3] at hc
      cases hc), isCel_tab hc, (fun _ q => nomatch q)⟩
  have nin2 : ∀ (k : Nat) (a : Addr), W.al.length ≤ k → W2.al[k]? = some a → a ∉ W.al := fun k a hk j1 hm => by
    obtain ⟨i, hi, e⟩ := List.getElem_of_mem hm
    have q1 := g2.le.al i a (by rw [← e]; exact List.getElem?_eq_getElem hi)
    have i1 := (List.getElem?_eq_some_iff.mp q1).1
    have := (List.getElem?_inj i1 r2.nd).mp (q1.trans j1.symm)
    omega
  have fin : ∀ (al3 : List Addr) (ls3 : List (List V)) (w : V), Fh W W2 ⟨W2.news, al3⟩ → (∀ (k : Nat) (a : Addr), W.al[k]? = some a → al3[k]? = some a) → (∀ a ∈ al3, a ∈ W.al ∨ ∀ p ∈ W.news, p.1 ≠ a) →
      (∀ (k : Nat) (ws : List V), ls3[k]? = some ws → σ.ls[k]? = some ws ∨ ∃ a xs n, al3[k]? = some a ∧ (a, listOf xs.toArray n) ∈ W2.news ∧ VRs ⟨W2.news, al3⟩ ws xs) → al3.length = ls3.length → al3.Nodup → (c.fz = true → al3 = W.al) →
      VR ⟨W2.news, al3⟩ w b → P w { σ with ls := ls3 } → Q b s2 := fun al3 ls3 w fh h1 h2 h3 h4 h5 h6 h7 h8 => by
    have leW : Le [] W ⟨W2.news, al3⟩ := ⟨g2.le.k, h1, h2, g2.le.ad⟩
    refine q w b _ ⟨W2.news, al3⟩ m2 s2 h8 ⟨r2.F, r2.N, fun y v e => (by obtain ⟨u, h1, h2⟩ := r.loc y v e; exact ⟨u, h1.mono leW, h2.mono cel0⟩), r2.cel, r.cvz, fun y v e => (by obtain ⟨u, oC, mC, h1, h2⟩ := r.cv y v e; exact ⟨u, oC, mC, h1.mono leW, h2⟩), fun k ws e => ?_, h4, h5, r2.fz, fun hz p hp => ⟨fun hm => (r2.fd hz p hp).1 (fh.al _ hm), (r2.fd hz p hp).2⟩, r2.fx, r2.calm, r.mfix, r2.tabs, r2.gens, r2.os⟩ ⟨leW, fun hz => ⟨h6 hz, (g2.fz hz).2⟩⟩ h7
    rcases h3 k ws e with h | h
    · obtain ⟨a0, ys0, k0, i1, i2, i3⟩ := r.ls k ws h
      have h' : σ2.ls[k]? = some ws := by rw [hg, List.getElem?_append_left (List.getElem?_eq_some_iff.mp h).1]; exact h
      obtain ⟨a, ys, k', j1, j2, j3⟩ := r2.ls k ws h'
      exact ⟨a, ys, k', (fh.at' k a0 i1).trans j1, j2, VRs.fh fh i3 j3⟩
    · exact h
  have fh0 : Fh W W2 ⟨W2.news, W.al⟩ := ⟨⟨rfl, fun a ha => by rw [← alP] at ha; exact List.mem_of_mem_take ha⟩, fun k a e => by
    show W.al[k]? = W2.al[k]?
    rw [e, g2.le.al k a e]⟩
  have case1 : ∀ w : V, noLst w = true → VR W2 w b → P w σ → Q b s2 := fun w k v p =>
    fin W.al σ.ls w fh0 (fun _ _ e => e) (fun _ h => .inl h) (fun _ _ e => .inl e) r.len r.nd (fun _ => rfl) (VR.fg fh0.toFg k v) p
  cases v with
  | int i => exact case1 _ hv.1 e2 hv.2
  | bool i => exact case1 _ hv.1 e2 hv.2
  | old i => exact case1 _ hv.1 e2 hv.2
  | tup i => exact case1 _ hv.1 e2 hv.2
  | inst C i => exact case1 _ hv.1 e2 hv.2
  | rng i j k => exact case1 _ hv.1 e2 hv.2
  | flst i => exact case1 _ hv.1 e2 hv.2
  | lst k =>
    obtain ⟨j, ws, ek, hw, hpw, p⟩ := hv
    obtain ⟨a, ys, n', rfl, j1, j2, j3⟩ := r2.lstAt hw e2
    have hk : W.al.length ≤ k := by rw [r.len, ek]; exact Nat.le_add_right _ _
    have hfz : c.fz = false := by
      cases hz : c.fz with
      | false => rfl
      | true =>
        have := (g2.fz hz).1
        have hl := (List.getElem?_eq_some_iff.mp j1).1
        rw [this] at hl
        omega
    have nin := nin2 k a hk j1
    have fresh : ∀ p ∈ W.news, p.1 ≠ a := fun p hp e => (g2.le.an a (List.mem_of_getElem? j1)).elim nin fun h => h p hp e
    have lft : ∀ (i : Nat) (b : Addr), W.al[i]? = some b → (W.al ++ [a])[i]? = some b := fun i b e => by rw [List.getElem?_append_left (List.getElem?_eq_some_iff.mp e).1]; exact e
    have fh1 : Fh W W2 ⟨W2.news, W.al ++ [a]⟩ := ⟨⟨rfl, fun b hb => (List.mem_append.mp hb).elim (fun h => fh0.al _ h) fun h => by rw [List.mem_singleton.mp h]; exact List.mem_of_getElem? j1⟩, fun i b e => by
      show (W.al ++ [a])[i]? = W2.al[i]?
      rw [lft i b e, g2.le.al i b e]⟩
    refine fin (W.al ++ [a]) (σ.ls ++ [ws]) (.lst σ.ls.length) fh1 lft (fun b hb => (List.mem_append.mp hb).imp id fun h p hp => by rw [List.mem_singleton.mp h]; exact fresh p hp) (fun i vs e => ?_) (by rw [List.length_append, List.length_append, r.len]; rfl)
      (List.nodup_append.mpr ⟨r.nd, by simp, fun x hx y hy e => nin (by rw [← List.mem_singleton.mp hy, ← e]; exact hx)⟩) (fun hz => by rw [hfz] at hz; cases hz) (.lst (by rw [← r.len]; simp)) p
    by_cases hi : i < σ.ls.length
    · rw [List.getElem?_append_left hi] at e; exact .inl e
    · have hi' : i = σ.ls.length := by
        have := (List.getElem?_eq_some_iff.mp e).1
        rw [List.length_append] at this
        simp at this; omega
      subst hi'
      have e' : ws = vs := by simpa using e
      subst e'
      exact .inr ⟨a, ys, n', by rw [← r.len]; simp, j2, VRs.fg fh1.toFg hpw j3⟩
end
end Mine

end

section
set_option maxRecDepth 100000
set_option autoImplicit false
set_option linter.unusedVariables false
namespace Mine
open PySem PySem.W PyProof.Rows PySem.Calls PyProof.Rows.LCg
section
variable {S : Sx} {c : Cx} {env : Env} {σ : St} {n : Nat} {W : Wd} {m : Str → Option Value} {s : Shared}
theorem bin_fdiv (O : Ok S c n) {a b : Int} {P : V → St → Prop} (hb : b ≠ 0) (hr : b.natAbs < 1073741824) (h : P (.int (a.fdiv b)) σ) : BinS S c .FloorDiv (.int a) (.int b) σ P := fun W x y hx hy m s Q r q => by
  cases hx; cases hy
  exact floordiv_int hb (q _ _ σ W _ _ h (r.tok _) .refl .int) (.inl (PyProof.noPylong_small hr))
theorem bin_band {a b : Int} {P : V → St → Prop} (h : P (.int (Builtin.bitAnd a b)) σ) : BinS S c .BitAnd (.int a) (.int b) σ P := fun W x y hx hy m s Q r q => by
  cases hx; cases hy
  exact and_int (q _ _ σ W _ _ h (r.tok _) .refl .int)
theorem inp_rsh {a b : Int} {P : V → St → Prop} (hb : decide (0 ≤ b) = true) (h : P (.int (a.fdiv (2 ^ b.toNat))) σ) : InpS S c .RShift (.int a) (.int b) σ P := fun W x y hx hy m s Q r q => by
  cases hx; cases hy
  exact irshift_int (of_decide_eq_true hb) (q _ _ σ W _ _ h (r.tok _) .refl .int)
theorem call_int_i {a : Int} {P : V → St → Prop} (h : P (.int a) σ) : CallS S c (.old (.type "int")) [.int a] σ P := fun W x xs hx hxs m s Q r q => by
  cases hx
  cases hxs with
  | cons h1 h2 =>
    cases h2; cases h1
    exact PySem.call_int_int (q _ _ σ W _ _ h r .refl .int)
theorem isL_of {l : Addr} {xs : List Value} {k : Nat} (h : (l, listOf xs.toArray k) ∈ W.news) (r : R S c σ W m s) : s.heap.IsList l xs.toArray := ⟨_, (r.N _ h).1, rfl, k, rfl⟩

theorem lst_made (hfz : c.fz = false) (r : R S c σ W m s) {vs : List V} {xs : List Value} (e : VRs W vs xs) {P : V → St → Prop} {Q : Value → Shared → Prop} (h : NewK σ (vs) P)
    (q : ∀ g b σ' W' m' s', P g σ' → R S c σ' W' m' s' → Gr c [] W W' → VR W' g b → Q b s') {D : Addr} {k : Nat} {h' : Heap} {tk : Nat} (F' : Fr c.h₀ c.L h' m) (N' : News c.h₀ c.L h' ((D, listOf xs.toArray k) :: (c.frz ++ W.news))) (l1 : ∀ p ∈ c.frz ++ W.news, p.1 < D) : Q (.ref D) { s with heap := h', toks := tk } := by
  obtain ⟨r2, g⟩ := r.newList (tk := tk) hfz F' N' (fun b hb => Nat.ne_of_lt (l1 b hb)) e
  exact q _ _ _ _ _ _ h r2 g (.lst (by rw [← r.len]; simp))
theorem lt_size (r : R S c σ W m s) : ∀ p ∈ c.frz ++ W.news, p.1 < s.heap.objs.size := fun p hp => Heap.lt_size (r.all p hp).1
theorem bin_lists (hfz : c.fz = false) {k j : Nat} {vs ws : List V} {P : V → St → Prop} (hk : σ.ls[k]? = some vs) (hj : σ.ls[j]? = some ws) (hz : decide (vs.length + ws.length ≤ 1000) = true) (h : NewK σ (vs ++ ws) P) : BinS S c .Add (.lst k) (.lst j) σ P := fun W x y hx hy m s Q r q => by
  have hz := of_decide_eq_true hz
  obtain ⟨a, xs, c1, rfl, a1, a2, a3⟩ := r.lstAt hk hx
  obtain ⟨b, ys, c2, rfl, b1, b2, b3⟩ := r.lstAt hj hy
  have e1 := a3.length
  have e2 := b3.length
  exact add_lists r.F r.all (isL_of a2 r) (isL_of b2 r) (fun h' F' N' => lst_made (tk := s.toks) hfz r (a3.append b3) h q F' N' (lt_size r)) (by rw [e1, e2, sizeLine_eq]; omega)
theorem foldl_rep (xs : List Value) : ∀ (k : Nat) (acc : Array Value), List.foldl (fun x1 x2 => x1 ++ x2) acc (List.replicate k xs.toArray) = acc ++ (List.replicate k xs).flatten.toArray
  | 0, acc => by simp
  | k + 1, acc => by rw [List.replicate_succ, List.foldl_cons, foldl_rep xs k, List.replicate_succ, List.flatten_cons]; simp [Array.append_assoc]
theorem VRs.rep {vs : List V} {xs : List Value} (h : VRs W vs xs) : ∀ k : Nat, VRs W (List.replicate k vs).flatten (List.replicate k xs).flatten
  | 0 => .nil
  | k + 1 => by rw [List.replicate_succ, List.flatten_cons, List.replicate_succ, List.flatten_cons]; exact h.append (VRs.rep h k)
theorem bin_mulL (hfz : c.fz = false) {k : Nat} {i : Int} {v : V} {P : V → St → Prop} (hk : σ.ls[k]? = some [v]) (h0 : decide (i < 1000) = true) (h1 : decide (-1000 < i) = true) (h : NewK σ (List.replicate i.toNat v) P) : BinS S c .Mult (.lst k) (.int i) σ P := fun W x y hx hy m s Q r q => by
  have h0 := of_decide_eq_true h0
  have h1 := of_decide_eq_true h1
  cases hy
  obtain ⟨a, xs, c1, rfl, a1, a2, a3⟩ := r.lstAt hk hx
  cases a3 with
  | cons z1 z2 =>
    cases z2
    rename_i x0
    refine mul_list r.F r.all (r.N _ a2).1 (by omega) (by omega) (by simp; omega) (fun h' F' N' => ?_)
    have ev : List.replicate i.toNat v = (List.replicate i.toNat [v]).flatten := by
      generalize i.toNat = k
      induction k with
      | zero => rfl
      | succ k ih => rw [List.replicate_succ, List.replicate_succ, List.flatten_cons, ← ih]; rfl
    have z3 := VRs.rep (VRs.cons z1 .nil) i.toNat
    rw [← ev] at z3
    refine lst_made (tk := s.toks) hfz r z3 h q F' (k := 0) ?_ (lt_size r)
    have := foldl_rep [x0] i.toNat #[]
    simp only [List.size_toArray, Array.isEmpty, List.length_singleton] at N'
    rw [show (if decide (1 = 0) = true then 0 else i.toNat) = i.toNat from rfl, this] at N'
    simpa using N'
theorem call_list_l (hfz : c.fz = false) {k : Nat} {vs : List V} {P : V → St → Prop} (hk : σ.ls[k]? = some vs) (hz : decide (vs.length ≤ 1000) = true) (h : NewK σ (vs) P) : CallS S c (.old (.type "list")) [.lst k] σ P := fun W x xs hx hxs m s Q r q => by
  have hz := of_decide_eq_true hz
  cases hx
  cases hxs with
  | cons h1 h2 =>
    cases h2
    obtain ⟨a, ys, c1, rfl, a1, a2, a3⟩ := r.lstAt hk h1
    have e1 := a3.length
    exact kup_listOf (zs := ys) r.F r.all (List.mem_append_right _ a2) rfl (fun D c' h' F' N' l1 => lst_made (tk := s.toks) hfz r a3 h q F' N' l1) (by simp [e1, sizeLine_eq]; omega)
theorem call_list_t (hfz : c.fz = false) {vs : List V} {P : V → St → Prop} (hz : decide (vs.length ≤ 1000) = true) (h : NewK σ (vs) P) : CallS S c (.old (.type "list")) [.tup vs] σ P := fun W x xs hx hxs m s Q r q => by
  have hz := of_decide_eq_true hz
  cases hx
  cases hxs with
  | cons h1 h2 =>
    cases h2
    obtain ⟨a, ys, rfl, a1, a2, a3⟩ := h1.isTup r
    have e1 := a2.length
    exact kup_listOfT (zs := ys) r.F r.all (List.mem_append_right _ a1) rfl (fun D c' h' F' N' l1 => lst_made (tk := s.toks) hfz r a2 h q F' N' l1) (by simp [e1, sizeLine_eq]; omega)
theorem call_tuple_l {k : Nat} {vs : List V} {P : V → St → Prop} (hk : σ.ls[k]? = some vs) (hz : decide (vs.length ≤ 1000) = true) (h : P (.tup vs) σ) : CallS S c (.old (.type "tuple")) [.lst k] σ P := fun W x xs hx hxs m s Q r q => by
  have hz := of_decide_eq_true hz
  cases hx
  cases hxs with
  | cons h1 h2 =>
    cases h2
    obtain ⟨a, ys, c1, rfl, a1, a2, a3⟩ := r.lstAt hk h1
    have e1 := a3.length
    refine kde_tupleOf (zs := ys) r.F r.all (isL_of a2 r) (by rw [List.size_toArray, e1]; omega) rfl fun D h' F' N' l1 => ?_
    have hi : ∀ b ∈ c.frz ++ W.news, ∀ p ∈ [(D, tupO ys.toArray)], b.1 < p.1 := fun b hb p hp => by rw [List.mem_singleton.mp hp]; exact l1 b hb
    have g := Gr.next (c := c) (W := W) (new := [(D, tupO ys.toArray)]) hi (fun p hp => by rw [List.mem_singleton.mp hp]; exact tup_cls)
    exact q _ _ _ _ _ _ h (r.next (tk := s.toks) (new := [(D, tupO ys.toArray)]) F' N' hi) g (.tup (.head _) (a3.mono g.le))
theorem bin_tups {v w : V} {vs ws : List V} {P : V → St → Prop} (hz : decide (vs.length + ws.length ≤ 998) = true) (h : P (.tup (v :: vs ++ w :: ws)) σ) : BinS S c .Add (.tup (v :: vs)) (.tup (w :: ws)) σ P := fun W x y hx hy m s Q r q => by
  have hz := of_decide_eq_true hz
  obtain ⟨a, xs, rfl, a1, a2, a3⟩ := hx.isTup r
  obtain ⟨b, ys, rfl, b1, b2, b3⟩ := hy.isTup r
  have e1 := a2.length
  have e2 := b2.length
  refine add_tuples r.F r.all a3 b3 (fun e => by subst e; cases e1) (fun _ e => by subst e; cases e2) (fun _ _ h' F' N' => ?_) (by rw [e1, e2, sizeLine_eq]; simp; omega)
  have hi : ∀ b ∈ c.frz ++ W.news, ∀ p ∈ [((s.heap.objs.size : Addr), tupO (xs ++ ys).toArray)], b.1 < p.1 := fun b hb p hp => by rw [List.mem_singleton.mp hp]; exact lt_size r b hb
  have g := Gr.next (c := c) (W := W) (new := [((s.heap.objs.size : Addr), tupO (xs ++ ys).toArray)]) hi (fun p hp => by rw [List.mem_singleton.mp hp]; exact tup_cls)
  exact q _ _ _ _ _ _ h (r.next (tk := s.toks) (new := [(s.heap.objs.size, tupO (xs ++ ys).toArray)]) F' N' hi) g (.tup (.head _) ((a2.append b2).mono g.le))
end
end Mine

end

section
set_option maxRecDepth 100000
set_option autoImplicit false
set_option linter.unusedVariables false
namespace Mine
open PySem PySem.W PyProof.Rows PySem.Calls PyProof.Rows.LCg
section
variable {S : Sx} {c : Cx} {env : Env} {σ : St} {n : Nat} {W : Wd} {m : Str → Option Value} {s : Shared}
theorem VRs.split {vs : List V} {v : V} : ∀ {ws : List V} {xs : List Value}, VRs W (ws ++ [v]) xs → ∃ ys y, xs = ys ++ [y] ∧ VRs W ws ys ∧ VR W v y
  | [], _, .cons h .nil => ⟨[], _, rfl, .nil, h⟩
  | w :: ws, _, .cons h q => by
    obtain ⟨ys, y, e, a, b⟩ := VRs.split (vs := vs) q
    exact ⟨_ :: ys, y, by rw [e]; rfl, .cons h a, b⟩
theorem call_pop (hfz : c.fz = false) {k : Nat} {v : V} {vs ws : List V} {P : V → St → Prop} (hk : σ.ls[k]? = some vs) (hl : vs[vs.length - 1]? = some v) (hw : vs.dropLast = ws) (hz : decide (vs.length ≤ 1000) = true) (h : SetK σ k ws (P v)) : CallS S c (.old (.builtin "list.pop")) [.lst k] σ P := fun W x xs hx hxs m s Q r q => by
  have hz := of_decide_eq_true hz
  cases hx
  cases hxs with
  | cons h1 h2 =>
      cases h2
      obtain ⟨a, ys, c1, rfl, a1, a2, a3⟩ := r.lstAt hk h1
      have e := a3.length
      have ev : vs = ws ++ [v] := by
        subst hw
        cases vs with
        | nil => cases hl
        | cons x r => rw [← List.getLast?_eq_getElem?, List.getLast?_eq_some_getLast (List.cons_ne_nil _ _)] at hl; rw [← Option.some.inj hl]; exact (List.dropLast_concat_getLast _).symm
      subst ev
      obtain ⟨p, y, rfl, b1, b2⟩ := VRs.split (vs := []) a3
      have z := r.N _ a2
      have hz' : (p ++ [y]).toArray.size ≤ sizeLine := by rw [List.size_toArray, e, sizeLine_eq]; omega
      have hk' : (p ++ [y]).toArray.size - 1 = p.length := by rw [List.size_toArray, List.length_append]; rfl
      have hy : (p ++ [y]).toArray[(p ++ [y]).toArray.size - 1]? = some y := by rw [hk']; simp
      refine call_meets PySem.F.slot_list_pop ⟨_, z.1, rfl⟩ PySem.F.entry_list_pop (PySem.F.args_list_pop_1 _) (PySem.MeetsSeq.list_pop_last a _ c1 y hy hz') ⟨z.1, ?_⟩
      have e1 : (p ++ [y]).toArray.eraseIdxIfInBounds ((p ++ [y]).toArray.size - 1) = p.toArray := by rw [hk', kl_erase, List.append_nil]
      have u := PySem.IsL.update z.1 (fun vs => vs.eraseIdxIfInBounds ((p ++ [y]).toArray.size - 1))
      rw [e1] at u
      obtain ⟨r2, g⟩ := r.update (tk := s.toks) hfz a1 a2 (Heap.SameBut.update ..) u b1
      exact q _ _ _ _ _ _ h r2 g (b2.mono g.le)
theorem inp_lists (hfz : c.fz = false) {k j : Nat} {vs ws : List V} {P : V → St → Prop} (hk : σ.ls[k]? = some vs) (hj : σ.ls[j]? = some ws) (hz : decide (vs.length + ws.length ≤ 1000) = true) (h : SetK σ k (vs ++ ws) (P (.lst k))) : InpS S c .Add (.lst k) (.lst j) σ P := fun W x y hx hy m s Q r q => by
  have hz := of_decide_eq_true hz
  obtain ⟨a, xs, c1, rfl, a1, a2, a3⟩ := r.lstAt hk hx
  obtain ⟨b, ys, c2, rfl, b1, b2, b3⟩ := r.lstAt hj hy
  have e1 := a3.length
  have e2 := b3.length
  have ha : s.TypeIs (.ref a) "list" := (isL_of a2 r).typeIs
  have hb : s.TypeIs (.ref b) "list" := (isL_of b2 r).typeIs
  unfold inplaceOp
  refine wpAny_holding ?_
  have hfi : fillsInplaceSlot (.type "list") "add" (Operator.Add == .Add) = pure false := by
    unfold fillsInplaceSlot
    show (typeLookup (.type "list") (dunderI "add") >>= fun fi => pure (fi.isSome && !isSeqSlot fi)) = pure false
    rw [PySem.F.slot_list_iadd.lookup]; rfl
  refine wpAny_bind (wpAny_typeOf ha (wpAny_bind (wpAny_of_eq hfi ?_)))
  show wpAny _ _ (if false = true then _ else _) Q _ s
  rw [if_neg Bool.false_ne_true]
  refine wpAny_bind (PySem.wpAny_binaryOp1_none (nm := "add") ha hb PySem.noFill_list_add ?_)
  refine wpAny_bind (wpAny_of_eq (PySem.seqSlot_of PySem.F.slot_list_iadd.lookup (by decide +kernel)) ?_)
  refine wpAny_bind (wpAny_rule ?_)
  refine call_meets PySem.F.slot_list_iadd ha PySem.F.entry_list_iadd (PySem.F.args_list_iadd_2 _ _) (PySem.AutoSeq1.list___iadd___list_list_0 a xs.toArray c1 b ys.toArray c2 ?_ (by rw [List.size_toArray, e1, sizeLine_eq]; omega) (by rw [List.size_toArray, List.size_toArray, e1, e2, sizeLine_eq]; omega)) ⟨(r.N _ a2).1, (r.N _ b2).1, ?_⟩
  · simp [Builtin.List.listTooLong, e1, e2, sizeLine_eq]; intro _; omega
  · have u := PySem.IsL.update (r.N _ a2).1 (fun x => x ++ ys.toArray)
    have e3 : xs.toArray ++ ys.toArray = (xs ++ ys).toArray := by simp
    rw [e3] at u
    obtain ⟨r2, g⟩ := r.update (tk := s.toks) hfz a1 a2 (Heap.SameBut.update ..) u (a3.append b3)
    exact q _ _ _ _ _ _ h r2 g (.lst a1)
abbrev SlcS (S : Sx) (c : Cx) (value slice : Expr) (o i : V) (σ : St) (P : V → St → Prop) : Prop := ∀ W x y, VR W o x → VR W i y → ∀ (m : Str → Option Value) (s : Shared) (Q : Value → Shared → Prop), R S c σ W m s →
    (∀ g b σ' W' m' s', P g σ' → R S c σ' W' m' s' → Gr c [] W W' → VR W' g b → Q b s') →
    wpAny (model S.prog S.w) c.A (subscriptTail value slice x (.ref s.heap.objs.size)) Q (fun _ _ => False) { s with heap := s.heap.push { cls := .type "slice", data := .fields #[.none, y, .none] } }
theorem ev_slc {value hi : Expr} {p pos : Pos} {P : V → St → Prop} (h : EvS S c env value σ fun o σ₁ => EvS S c env hi σ₁ fun i σ₂ => SlcS S c value (.Slice none (some hi) none p) o i σ₂ P) : EvS S c env (.Subscript value (.Slice none (some hi) none p) pos) σ P := fun W m s Q r' q => by
  refine Subscript_ (h W m s _ r' fun a x σ₁ W₁ m₁ s₁ h₁ r₁ l₁ e₁ => ?_)
  refine wpAny_Slice (wpAny_pure ?_)
  refine (h₁ W₁ m₁ s₁ _ r₁ fun b y σ₂ W₂ m₂ s₂ h₂ r₂ l₂ e₂ => ?_)
  refine wpAny_pure ?_
  exact h₂ W₂ x y (e₁.mono l₂.le) e₂ m₂ s₂ _ r₂ fun g b' σ' W' m' s' p r3 l3 e => q g b' σ' W' m' s' p r3 ((l₁.trans l₂).trans l3) e
theorem slc_lst (hfz : c.fz = false) {value slice : Expr} {k : Nat} {i : Int} {vs : List V} {P : V → St → Prop} (hs : ∀ a b, subscripted slice false (.ref a) (.ref b) = operate [.ref b, .ref a] (getItem (.ref a) (.ref b))) (ht : ∀ a r, letTemporaryGo value (.ref a) r = pure ())
    (hk : σ.ls[k]? = some vs) (h0 : decide (0 ≤ i) = true) (h1 : decide (i ≤ (vs.length : Int)) = true) (hz : decide (vs.length ≤ 1000) = true) (h : NewK σ (vs.take i.toNat) P) : SlcS S c value slice (.lst k) (.int i) σ P := fun W x y hx hy m s Q r q => by
  have h0 := of_decide_eq_true h0
  have h1 := of_decide_eq_true h1
  have hz := of_decide_eq_true hz
  cases hy
  obtain ⟨a, xs, c1, rfl, a1, a2, a3⟩ := r.lstAt hk hx
  have e := a3.length
  have ei : i = (i.toNat : Int) := by omega
  have et : ∀ {vs : List V} {xs : List Value} (j : Nat), VRs W vs xs → VRs W (vs.take j) (xs.take j) := by
    intro vs xs j h
    induction j generalizing vs xs with
    | zero => simp; exact .nil
    | succ j ih => cases h with
      | nil => exact .nil
      | cons h q => exact .cons h (ih q)
  refine kmk_slice_lit (zs := xs.take i.toNat) r.F r.all (isL_of a2 r) .none (.int i _) ?_ (fun D h' F' N' l1 => lst_made (tk := s.toks) hfz r (et _ a3) h q F' N' l1) (hs _ _) (fun r => ht _ r) (by rw [List.size_toArray, e, sizeLine_eq]; omega)
  rw [ei, slicePick_upto xs.toArray i.toNat (by simp [e]; omega)]
  simp
  omega
theorem rng_made (r : R S c σ W m s) {a b d : Int} {t u v : Tok} {tk : Nat} {P : V → St → Prop} {Q : Value → Shared → Prop} (h : P (.rng a b d) σ) (q : ∀ g b σ' W' m' s', P g σ' → R S c σ' W' m' s' → Gr c [] W W' → VR W' g b → Q b s') : Q (.ref s.heap.objs.size) { s with heap := s.heap.push (rngO a b d t u v), toks := tk } := by
  have hi : ∀ b' ∈ c.frz ++ W.news, ∀ p ∈ [((s.heap.objs.size : Addr), rngO a b d t u v)], b'.1 < p.1 := fun b hb p hp => by rw [List.mem_singleton.mp hp]; exact lt_size r b hb
  have g := Gr.next (c := c) (W := W) (new := [((s.heap.objs.size : Addr), rngO a b d t u v)]) hi (fun p hp => by rw [List.mem_singleton.mp hp]; exact fun h => absurd (Value.type.inj h) (by decide))
  exact q _ _ _ _ _ _ h (r.next (tk := tk) (new := [(s.heap.objs.size, rngO a b d t u v)]) (r.F.push _) (r.all.push r.F _) hi) g (.rng (.head _))
theorem call_rng1 {b : Int} {P : V → St → Prop} (h : P (.rng 0 b 1) σ) : CallS S c (.old (.type "range")) [.int b] σ P := fun W x xs hx hxs m s Q r q => by
  cases hx
  cases hxs with
  | cons h1 h2 => cases h2; cases h1; exact call_range_1 (rng_made r h q)
theorem call_rng3 {a b d : Int} {P : V → St → Prop} (hd : decide (d ≠ 0) = true) (hs : decide (d.natAbs < 1000) = true) (h : P (.rng a b d) σ) : CallS S c (.old (.type "range")) [.int a, .int b, .int d] σ P := fun W x xs hx hxs m s Q r q => by
  have hs := of_decide_eq_true hs
  cases hx
  cases hxs with
  | cons h1 h2 => cases h2 with
    | cons h2 h3 => cases h3 with
      | cons h3 h4 => cases h4; cases h1; cases h2; cases h3; exact call_range_3 (of_decide_eq_true hd) (rng_made r h q) (.inl (PyProof.noPylong_small (by omega)))
end
end Mine

end

section
set_option maxRecDepth 100000
set_option autoImplicit false
set_option linter.unusedVariables false
namespace Mine
open PySem PySem.W PyProof.Rows PySem.Calls PyProof.Rows.LCg
theorem mulOk (a b : Int) (h0 : -1000000 < b) (h1 : b < 1000000) : IntMulOk a b := IntMulOk.of_right (intBits_le_64 (by omega) (by omega))
theorem coefF {q u : Int} (h0 : 0 ≤ u) (h1 : u < q) (h2 : q < 1000) : CoefV q (fqV q u) u := ⟨⟨by omega, by omega⟩, .inr ⟨rfl, h0, h1⟩⟩
theorem coefI {q u : Int} (h0 : -1000000 < u) (h1 : u < 1000000) : CoefV q (.int u) u := ⟨⟨h0, h1⟩, .inl rfl⟩
theorem mulOkL (a b : Int) (h0 : -1000000 < a) (h1 : a < 1000000) : IntMulOk a b := IntMulOk.of_left (intBits_le_64 (by omega) (by omega))
theorem meq_fin {q x e t : Int} (h : MEq q x e) (he : e = t) : Int.fmod x q = Int.fmod t q := he ▸ h.eq
theorem pl_eq {q cc na a b a' b' : Int} {σ : St} {P : V → St → Prop} (ha : a' = a) (hb : b' = b) (h : P (plV q cc na a b) σ) : P (plV q cc na a' b') σ := by subst ha hb; exact h
theorem tg_val (vs : List V) : ∀ e ∈ vs.map It.val, ∃ v, e = .val v := fun e h => by obtain ⟨a, _, b⟩ := List.mem_map.mp h; exact ⟨_, b.symm⟩
theorem tg_rng (a d : Int) (k : Nat) : ∀ e ∈ rngI a d k, ∃ v, e = .val v := fun e h => by obtain ⟨a, _, b⟩ := List.mem_map.mp h; exact ⟨_, b.symm⟩
theorem tg_pair (vs : List (V × V)) : ∀ e ∈ vs.map (fun p => It.pair p.1 p.2), ∃ v w, e = .pair v w := fun e h => by obtain ⟨a, _, b⟩ := List.mem_map.mp h; exact ⟨_, _, b.symm⟩
theorem ints_get : ∀ {vs : List Value} {ns : List Int} {i : Nat} {u : Value} {v : Int}, IntsAre vs ns → vs[i]? = some u → ns[i]? = some v → ∃ t, u = .int v t
  | _, _, _, _, _, .nil, h, _ => by simp at h
  | _, _, 0, _, _, .cons _ t r, h, h' => by simp at h h'; subst h h'; exact ⟨t, rfl⟩
  | _, _, i + 1, _, _, .cons _ t r, h, h' => ints_get r (by simpa using h) (by simpa using h')
section
variable {S : Sx} {c : Cx} {env : Env} {σ : St} {n : Nat}
theorem lpc {E : Env} {z l : Bool} (hE : c.fenv = E) (hz : c.fz = z) (hl : c.el = l) {target : Expr} {body : List Stmt} {it : It} {r : List It} {P : Fl → St → Prop} (h : ∀ c' : Cx, c'.fenv = E → c'.fz = z → c'.el = l → Ok S c' n → AsgI S c' target it σ fun _ σ₁ => BlS S c' body σ₁ (lpK S c n target body r P)) : LoopS S c n target body (it :: r) σ P :=
  lp_cons fun c' a b d e => h c' (a.trans hE) (b.trans hz) (d.trans hl) e
theorem cp_nil {scope : Scope} {cl : List (Str × Addr)} {target elt : Expr} {K : List V → Prop} (h : K []) : CompS S c n scope cl target elt σ [] K := h
theorem cpc {E : Env} (hE : c.fenv = E) {scope : Scope} {cl : List (Str × Addr)} {target elt : Expr} {it : It} {r : List It} {K : List V → Prop} (out : V) (h : ∀ c' : Cx, c'.fenv = E → c'.fz = true → Ok S c' n → EvS S c' (compEnvC scope cl c'.C c'.fenv) elt ⟨σ.loc, cvOf target it, σ.ls⟩ fun v _ => v = out)
    (hr : CompS S c n scope cl target elt σ r fun vs => K (out :: vs)) : CompS S c n scope cl target elt σ (it :: r) K := ⟨out, fun c' a b d => h c' (a.trans hE) b d, hr⟩
abbrev SrcS (S : Sx) (c : Cx) (md : Bool) (target : Expr) (v : V) (σ : St) (K : List It → St → Prop) : Prop := ∃ items, K items σ ∧ ∀ W m s xv, R S c σ W m s → VR W v xv → PySrc S c md target items W xv s
theorem iteX {md : Bool} {iter target : Expr} {K : List It → St → Prop} (h : EvS S c env iter σ fun v σ₁ => SrcS S c md target v σ₁ K) : IteS S c md env iter target σ K := ite_of h
theorem src_tup (O : Ok S c n) {md : Bool} {target : Expr} {vs : List V} {K : List It → St → Prop} (hg : ∀ (I : Addr) (v : Value), letOwnedTupleGo target (.ref I) v = pure () ∨ ∃ e k p, target = .Tuple e k p) (h : K (vs.map .val) σ) : SrcS S c md target (.tup vs) σ K :=
  ⟨_, h, fun W m s xv r hx => py_tup O r hx hg⟩
theorem src_lst (O : Ok S c n) {target : Expr} {k : Nat} {vs : List V} {K : List It → St → Prop} (hk : σ.ls[k]? = some vs) (h : K (vs.map .val) σ) : SrcS S c false target (.lst k) σ K :=
  ⟨_, h, fun W m s xv r hx => by
    obtain ⟨a, xs, c', rfl, h1, h2, h3⟩ := r.lstAt hk hx
    exact py_list O r h2 h3 (fun h => nomatch h)⟩
theorem src_fl (O : Ok S c n) {md : Bool} {target : Expr} {vs : List V} {K : List It → St → Prop} (h : K (vs.map .val) σ) : SrcS S c md target (.flst vs) σ K :=
  ⟨_, h, fun W m s xv r hx => by
    cases hx with
    | flst h1 h2 h3 => exact py_list O r h1 h3 (fun _ => h2)⟩
theorem src_rng (O : Ok S c n) {md : Bool} {x : Str} {px : Pos} {a b d : Int} (k : Nat) {K : List It → St → Prop} (hsm : Builtin.Range.small a b d = true) (hn : Builtin.Range.rangeSize a b d = ((k : Nat) : Int)) (h : K (rngI a d k) σ) : SrcS S c md (.Name x px) (.rng a b d) σ K :=
  ⟨_, h, fun W m s xv r hx => py_rng O r hx hsm hn⟩
theorem new_E {l e : List (List V)} {vs : List V} {P : V → St → Prop} (hls : σ.ls = l ++ e) (h : P (.lst (l.length + e.length)) { σ with ls := l ++ (e ++ [vs]) }) : NewK σ vs P := by
  unfold NewK
  rw [hls, List.length_append, List.append_assoc]; exact h
theorem set_E {l e : List (List V)} {k j : Nat} {vs : List V} {P : St → Prop} (hls : σ.ls = l ++ e) (hk : k = l.length + j) (h : P { σ with ls := l ++ e.set j vs }) : SetK σ k vs P := by
  unfold SetK
  rw [hls, hk, List.set_append_right _ _ (Nat.le_add_right _ _), Nat.add_sub_cancel_left]; exact h
theorem lkE {l e : List (List V)} {j : Nat} {vs : List V} (h : e[j]? = some vs) : (l ++ e)[l.length + j]? = some vs := by
  rw [List.getElem?_append_right (Nat.le_add_right _ _), Nat.add_sub_cancel_left]; exact h
theorem lkL {l e : List (List V)} {k : Nat} {vs : List V} (h : l[k]? = some vs) : (l ++ e)[k]? = some vs := by
  rw [List.getElem?_append_left (List.getElem?_eq_some_iff.mp h).1]; exact h
theorem Ok.up (O : Ok S c n) (h : 1 ≤ n) : Ok S c (n - 1 + 1) := by rw [Nat.sub_add_cancel h]; exact O
theorem call_rng1N {b b' : Int} {P : V → St → Prop} (hb : b = b') (h : P (.rng 0 b' 1) σ) : CallS S c (.old (.type "range")) [.int b] σ P := call_rng1 (hb ▸ h)
theorem call_rng3N {a b d a' b' d' : Int} {P : V → St → Prop} (ha : a = a') (hb : b = b') (hd2 : d = d') (hd : decide (d' ≠ 0) = true) (hs : decide (d'.natAbs < 1000) = true) (h : P (.rng a' b' d') σ) : CallS S c (.old (.type "range")) [.int a, .int b, .int d] σ P := by
  subst ha hb hd2; exact call_rng3 hd hs h
theorem bl_consN {σ' : St} {st : Stmt} {rest : List Stmt} {P : Fl → St → Prop} (e : σ = σ') (h : StS S c st σ' (seqK S c rest P)) : BlS S c (st :: rest) σ P := by subst e; exact bl_cons h
theorem call_len_old (O : Ok S c n) (hz : S.sv.length < 1000) {P : V → St → Prop} (h : P (.int S.sv.length) σ) : CallS S c (.old (.builtin "len")) [.old (.ref S.sa)] σ P := fun W x xs hx hxs m s Q r q => by
  cases hx
  cases hxs with
  | cons h1 h2 =>
    cases h2; cases h1
    have hl : s.heap.IsList S.sa S.sv.toArray := O.old.at fun o e => r.F.keep _ o e
    exact len_list hl (by rw [List.size_toArray]; omega) (by rw [List.size_toArray]; exact q _ _ σ W _ _ h (r.tok _) .refl .int)
theorem sub_old (O : Ok S c n) {value slice : Expr} {ns : List Int} {i : Int} {v : Int} {P : V → St → Prop} (hs : ∀ a t, subscripted slice false (.ref a) (.int i t) = operate [.ref a, .int i t] (getItem (.ref a) (.int i t))) (hi : IntsAre S.sv ns) (h0 : decide (0 ≤ i) = true) (h1 : decide (i < 1000) = true) (hv : ns[i.toNat]? = some v) (h : P (.int v) σ) : SubT S c value slice (.old (.ref S.sa)) (.int i) σ P := fun W x y hx hy m s Q r q => by
  have h0 := of_decide_eq_true h0
  have h1 := of_decide_eq_true h1
  cases hx; cases hy
  have hl : s.heap.IsList S.sa S.sv.toArray := O.old.at fun o e => r.F.keep _ o e
  obtain ⟨u, hu⟩ : ∃ u, S.sv[i.toNat]? = some u := by
    have := (List.getElem?_eq_some_iff.mp hv).1
    rw [← hi.length] at this
    exact ⟨_, List.getElem?_eq_getElem this⟩
  have hu2 : ∃ t, u = .int v t := ints_get hi hu hv
  obtain ⟨t, rfl⟩ := hu2
  exact tail_any hl.typeIs slot_list_getitem.lookup (getItem_listL hl h0 (by omega) (by simpa using hu) (q _ _ σ W _ _ h r .refl .int)) (hs _ _)
theorem dr_v {σ' : St} {P : V → St → Prop} {v : V} {g : List (List V)} (hv : noLst v = true) (hg : σ'.ls = σ.ls ++ g) (h : P v σ) : drK σ P v σ' := by
  refine ⟨⟨g, hg⟩, ?_⟩
  cases v <;> first | exact ⟨hv, h⟩ | cases hv
theorem dr_l {σ' : St} {P : V → St → Prop} {k j : Nat} {g : List (List V)} {ws : List V} (hk : k = σ.ls.length + j) (hg : σ'.ls = σ.ls ++ g) (hs : σ'.ls[k]? = some ws) (hv : noLsts ws = true) (h : NewK σ ws P) : drK σ P (.lst k) σ' :=
  ⟨⟨g, hg⟩, j, ws, hk, hs, hv, h⟩
theorem Ok.mono {k : Nat} (O : Ok S c n) (h : k ≤ n) : Ok S c k := ⟨O.B, O.X, O.T, O.M, O.hA, O.hf, O.hke, O.hh, by have := O.hd; omega, by have := O.hu; omega, O.hl, O.hg, O.hb, O.hcd, O.old⟩
variable (hK : S.K = hd.heap_39 S.w.params)
include hK
theorem callF {z : Bool} {fr : List (Addr × Obj)} (hz : c.fz = z) (hfr : (z = false ∧ fr = []) ∨ c.frz = fr) (O : Ok S c (n + 1)) {f : Addr} {qual : Str} (names : List Str) {body : List Stmt} {scope : Scope} {cdv : Value} {vs : List V} {P : V → St → Prop}
  {name : Str} {params : Arguments} {dV kV doc pm ct oc : Value} {an od : Option Addr} {osl : Array (Option Value)}
  (k1 : (hd.heap_39 S.w.params).lookup f = some ⟨oc, od, .func (fnOf name qual params body scope dV kV doc pm an cdv ct), osl⟩)
  (k2 : ∀ xs : List Value, xs.length = names.length → bindArgs (fnOf name qual params body scope dV kV doc pm an cdv ct) ⟨xs, []⟩ = pure (names.zip xs))
  (k3 : codeIn (hd.heap_39 S.w.params) cdv qual = true) (k4 : names.Nodup)
  (k5 : (names.all fun x => (scope.names.lookup x == some .local && !((cellsFrom 0 scope.names []).lookup x).isSome) || (scope.names.lookup x == some .cell && ((cellsFrom 0 scope.names []).lookup x).isSome)) = true)
  (k6 : ((cellsFrom 0 scope.names []).map (·.1)).Nodup) (k7 : scope.isCoroutine = false) (k8 : scope.isGenerator = false) (k9 : scope.kind = .function)
  (hl : vs.length = names.length) (hcz : z = false ∨ cellsFrom 0 scope.names [] = [])
    (h : ∀ c' : Cx, c'.fenv = envOfC qual scope c'.L f cdv → c'.fz = z → c'.frz = fr → c'.el = false → Ok S c' n → BlS S c' body ⟨names.zip vs, [], σ.ls⟩ (fnK σ P)) :
    CallS S c (.old (.ref f)) vs σ P :=
  callFn hK O k1 k2 k3 k4 k5 k6 k7 k8 k9 hl (hz ▸ hcz) (hz ▸ hfr) fun c' a b d e g => h c' a (b.trans hz) d e g
theorem callE {z : Bool} {fr : List (Addr × Obj)} (hz : c.fz = z) (hfr : (z = false ∧ fr = []) ∨ c.frz = fr) (O : Ok S c (n + 1)) {f : Addr} {qual : Str} (names : List Str) {body : List Stmt} {scope : Scope} {cdv : Value} {vs : List V} {P : V → St → Prop}
  {name : Str} {params : Arguments} {dV kV doc pm ct oc : Value} {an od : Option Addr} {osl : Array (Option Value)}
  (k1 : (hd.heap_39 S.w.params).lookup f = some ⟨oc, od, .func (fnOf name qual params body scope dV kV doc pm an cdv ct), osl⟩)
  (k2 : ∀ xs : List Value, xs.length = names.length → bindArgs (fnOf name qual params body scope dV kV doc pm an cdv ct) ⟨xs, []⟩ = pure (names.zip xs))
  (k3 : codeIn (hd.heap_39 S.w.params) cdv qual = true) (k4 : names.Nodup)
  (k5 : (names.all fun x => (scope.names.lookup x == some .local && !((cellsFrom 0 scope.names []).lookup x).isSome) || (scope.names.lookup x == some .cell && ((cellsFrom 0 scope.names []).lookup x).isSome)) = true)
  (k6 : ((cellsFrom 0 scope.names []).map (·.1)).Nodup) (k7 : scope.isCoroutine = false) (k8 : scope.isGenerator = false) (k9 : scope.kind = .function)
  (hl : vs.length = names.length) (hcz : z = false ∨ cellsFrom 0 scope.names [] = [])
    (h : ∀ c' : Cx, c'.fenv = envOfC qual scope c'.L f cdv → c'.fz = z → c'.frz = fr → c'.el = false → Ok S c' n → BlS S c' body ⟨names.zip vs, [], σ.ls ++ []⟩ (fnK ⟨[], [], σ.ls⟩ (drK σ P))) :
    CallS S c (.old (.ref f)) vs σ P :=
  call_dr O _ fun c' a b d e => callF hK (a.trans hz) (hfr.imp id fun q => b.trans q) e names k1 k2 k3 k4 k5 k6 k7 k8 k9 hl hcz fun c2 x1 x2 x3 x4 x5 => by
    have := h c2 x1 x2 x3 x4 x5
    rwa [List.append_nil] at this
end
end Mine

end

section
set_option maxRecDepth 100000
set_option autoImplicit false
set_option linter.unusedVariables false
set_option Elab.async false
set_option maxHeartbeats 4000000
open PySem PySem.W PyProof.Rows PySem.Calls
namespace Mine
structure BinOk (K : Frag) (C f : Addr) (nm : String) : Prop where
  hc : selfFirst K C = true
  hs : findIn K (.ref C) (PySem.dunder nm) = some (some (.ref f))
  hf : isFn K (.ref f) = true
structure BinIOk (K : Frag) (C f : Addr) (nm : String) : Prop extends BinOk K C f nm where
  hr : ∃ rc, findIn K (.ref C) (dunderR nm) = some rc ∧ (rc = none ∨ ∃ g : Addr, rc = some (.ref g))
  h1 : ∃ fo, findIn K (.type "int") (PySem.dunder nm) = some fo
  h2 : ∃ ro, findIn K (.type "int") (dunderR nm) = some ro
  hsub : subIn K (.type "int") (.ref C) = some false
section
variable {S : Sx} {c : Cx} {env : Env} {σ : St} {n : Nat} {W : Wd} {m : Str → Option Value} {s : Shared}
theorem VR.instI {C : Addr} {fs : List (Str × V)} {x : Value} (h : VR W (.inst C fs) x) (r : R S c σ W m s) : ∃ a d od, x = .ref a ∧ InstAt s.heap a (instObj C d) C (some od) := by
  cases h with
  | inst h1 h2 h3 => exact ⟨_, _, _, rfl, InstAt.of_news r.N h1 h2⟩
theorem cmpBack {v : V} {b : Value} {Q : Value → Shared → Prop} {s' : Shared} (hv : VR W v b) (hn : notOld v = true) (q : Q b s') : PySem.W.CmpBack Q b s' := by
  cases hv <;> first | exact q | cases hn
variable (hK : S.K = hd.heap_39 S.w.params)
include hK
theorem bin_inst (O : Ok S c n) {C f : Addr} {op : Operator} {fs gs : List (Str × V)} {P : V → St → Prop} (X : BinOk (hd.heap_39 S.w.params) C f op.info.2) (h : CallS S c (.old (.ref f)) [.inst C fs, .inst C gs] σ fun v σ' => notOld v = true ∧ P v σ') : BinS S c op (.inst C fs) (.inst C gs) σ P := fun W x y hx hy m s Q r q => by
  obtain ⟨xa, dx, odx, rfl, Ix⟩ := hx.instI r
  obtain ⟨ya, dy, ody, rfl, Iy⟩ := hy.instI r
  have X' := hK ▸ O.X
  refine bin_of (bin1_same (X'.keeps r.F.keep) Ix Iy X.hc X.hs X.hf ?_)
  exact h W _ _ .old (.cons hx (.cons hy .nil)) m s _ r fun v b σ' W' m' s' p r' g' e' => cmpBack e' p.1 (q v b σ' W' m' s' p.2 r' g' e')
theorem bin_instI (O : Ok S c n) {C f : Addr} {op : Operator} {fs : List (Str × V)} {i : Int} {P : V → St → Prop} (X : BinIOk (hd.heap_39 S.w.params) C f op.info.2) (h : CallS S c (.old (.ref f)) [.inst C fs, .int i] σ fun v σ' => notOld v = true ∧ P v σ') : BinS S c op (.inst C fs) (.int i) σ P := fun W x y hx hy m s Q r q => by
  obtain ⟨xa, dx, odx, rfl, Ix⟩ := hx.instI r
  cases hy
  have X' := hK ▸ O.X
  obtain ⟨rc, r1, r2⟩ := X.hr
  obtain ⟨fo, h1⟩ := X.h1
  obtain ⟨ro, h2⟩ := X.h2
  refine bin_of (bin1_int (X'.keeps r.F.keep) Ix X.hc X.hs X.hf r1 r2 h1 h2 X.hsub ?_)
  exact h W _ _ .old (.cons hx (.cons .int .nil)) m s _ r fun v b σ' W' m' s' p r' g' e' => cmpBack e' p.1 (q v b σ' W' m' s' p.2 r' g' e')
end
theorem bo_297_Mult (P : Params) : BinOk (hd.heap_39 P) 449 382 Operator.Mult.info.2 := ⟨by k_is, by k_is, by k_is⟩
theorem bo_422_Add (P : Params) : BinOk (hd.heap_39 P) 161 64 Operator.Add.info.2 := ⟨by k_is, by k_is, by k_is⟩
theorem bo_422_Mult (P : Params) : BinOk (hd.heap_39 P) 161 81 Operator.Mult.info.2 := ⟨by k_is, by k_is, by k_is⟩
theorem bo_451_Add (P : Params) : BinOk (hd.heap_39 P) 190 64 Operator.Add.info.2 := ⟨by k_is, by k_is, by k_is⟩
theorem bo_451_Mult (P : Params) : BinOk (hd.heap_39 P) 190 81 Operator.Mult.info.2 := ⟨by k_is, by k_is, by k_is⟩
theorem bi_297_Div (P : Params) : BinIOk (hd.heap_39 P) 449 394 Operator.Div.info.2 := ⟨⟨by k_is, by k_is, by k_is⟩, ⟨_, by k_is, by first | exact .inl rfl | exact .inr ⟨_, rfl⟩⟩, ⟨_, by k_is⟩, ⟨_, by k_is⟩, by k_is⟩
theorem bi_297_Pow (P : Params) : BinIOk (hd.heap_39 P) 449 401 Operator.Pow.info.2 := ⟨⟨by k_is, by k_is, by k_is⟩, ⟨_, by k_is, by first | exact .inl rfl | exact .inr ⟨_, rfl⟩⟩, ⟨_, by k_is⟩, ⟨_, by k_is⟩, by k_is⟩
theorem bi_422_Div (P : Params) : BinIOk (hd.heap_39 P) 161 93 Operator.Div.info.2 := ⟨⟨by k_is, by k_is, by k_is⟩, ⟨_, by k_is, by first | exact .inl rfl | exact .inr ⟨_, rfl⟩⟩, ⟨_, by k_is⟩, ⟨_, by k_is⟩, by k_is⟩
theorem bi_422_Pow (P : Params) : BinIOk (hd.heap_39 P) 161 100 Operator.Pow.info.2 := ⟨⟨by k_is, by k_is, by k_is⟩, ⟨_, by k_is, by first | exact .inl rfl | exact .inr ⟨_, rfl⟩⟩, ⟨_, by k_is⟩, ⟨_, by k_is⟩, by k_is⟩
theorem bi_451_Div (P : Params) : BinIOk (hd.heap_39 P) 190 93 Operator.Div.info.2 := ⟨⟨by k_is, by k_is, by k_is⟩, ⟨_, by k_is, by first | exact .inl rfl | exact .inr ⟨_, rfl⟩⟩, ⟨_, by k_is⟩, ⟨_, by k_is⟩, by k_is⟩
theorem bi_451_Pow (P : Params) : BinIOk (hd.heap_39 P) 190 100 Operator.Pow.info.2 := ⟨⟨by k_is, by k_is, by k_is⟩, ⟨_, by k_is, by first | exact .inl rfl | exact .inr ⟨_, rfl⟩⟩, ⟨_, by k_is⟩, ⟨_, by k_is⟩, by k_is⟩
end Mine

end

section
set_option maxRecDepth 100000
set_option autoImplicit false
set_option linter.unusedVariables false
namespace Mine
open PySem PySem.W PyProof.Rows PySem.Calls PyProof.Rows.LCg
section
variable {S : Sx} {c : Cx} {env : Env} {σ : St} {n : Nat} {W : Wd} {m : Str → Option Value} {s : Shared}

def CompI (S : Sx) (c : Cx) (n : Nat) (scope : Scope) (cl : List (Str × Addr)) (target elt : Expr) (y : Str) (σ : St) : List It → (List V → Prop) → Prop
  | [], K => K []
  | it :: r, K => ∃ z, (cvOf target it).lookup y = some (.int z) ∧ if (z != 0) = true then ∃ out, (∀ c' : Cx, c'.fenv = c.fenv → c'.fz = true → Ok S c' n → EvS S c' (compEnvC scope cl c'.C c'.fenv) elt ⟨σ.loc, cvOf target it, σ.ls⟩ fun v _ => v = out) ∧ CompI S c n scope cl target elt y σ r fun vs => K (out :: vs)
      else CompI S c n scope cl target elt y σ r K
theorem CompI.outs {scope : Scope} {cl : List (Str × Addr)} {target elt : Expr} {y : Str} : ∀ {items : List It} {K : List V → Prop}, CompI S c n scope cl target elt y σ items K → ∃ os : List (Option V), K (os.filterMap id) ∧ os.length = items.length ∧
    (∀ (i : Nat) e, items[i]? = some e → ∃ z, (cvOf target e).lookup y = some (.int z) ∧ (os[i]?.getD none).isSome = (z != 0)) ∧
    ∀ (i : Nat) e out, items[i]? = some e → os[i]? = some (some out) → ∀ c' : Cx, c'.fenv = c.fenv → c'.fz = true → Ok S c' n → EvS S c' (compEnvC scope cl c'.C c'.fenv) elt ⟨σ.loc, cvOf target e, σ.ls⟩ fun v _ => v = out
  | [], K, h => ⟨[], h, rfl, (fun i e h => by simp at h), fun i e out h => by simp at h⟩
  | it :: r, K, ⟨z, hz, h⟩ => by
    by_cases hb : (z != 0) = true
    · rw [if_pos hb] at h
      obtain ⟨out, h1, h2⟩ := h
      obtain ⟨os, a, b, d, f⟩ := CompI.outs h2
      refine ⟨some out :: os, a, by simp [b], fun i e h => ?_, fun i e o h h' => ?_⟩
      · cases i with
        | zero => simp at h; subst h; exact ⟨z, hz, by simp [hb]⟩
        | succ i => exact d i e (by simpa using h)
      · cases i with
        | zero => simp at h h'; subst h h'; exact h1
        | succ i => exact f i e o (by simpa using h) (by simpa using h')
    · rw [if_neg hb] at h
      obtain ⟨os, a, b, d, f⟩ := CompI.outs h
      refine ⟨none :: os, a, by simp [b], fun i e h => ?_, fun i e o h h' => ?_⟩
      · cases i with
        | zero => simp at h; subst h; exact ⟨z, hz, by simpa using hb⟩
        | succ i => exact d i e (by simpa using h)
      · cases i with
        | zero => simp at h'
        | succ i => exact f i e o (by simpa using h) (by simpa using h')
theorem made_vrsT {al : List Addr} {led : List (Addr × Obj)} {os : List (Option V)} : ∀ {i : Nat} {ys : List Value} {nw : List (Addr × Obj)}, MadeC (fun i y new => ∃ out, os[i]? = some (some out) ∧ VR ⟨new ++ led, al⟩ out y) (fun i => (os[i]?.getD none).isSome) i ys nw → i ≤ os.length → VRs ⟨nw ++ led, al⟩ ((os.take i).filterMap id) ys
  | 0, ys, nw, h, _ => by obtain ⟨rfl, rfl⟩ := h; rw [List.take_zero]; exact .nil
  | i + 1, ys, nw, h, hi => by
    rcases h with ⟨ht, ys', nw', y, new, h1, rfl, rfl, out, ho, hv⟩ | ⟨ht, h1⟩
    · have ih := made_vrsT h1 (by omega)
      rw [List.take_add_one, ho, List.filterMap_append]
      have l1 : Le [] ⟨nw' ++ led, al⟩ ⟨new ++ nw' ++ led, al⟩ := ⟨fun p hp _ => by rw [List.append_assoc]; exact List.mem_append_right _ hp, fun _ _ h => h, fun _ h => .inl h, fun p hp => ⟨p, by rw [List.append_assoc]; exact List.mem_append_right _ hp, rfl⟩⟩
      have l2 : Le [] ⟨new ++ led, al⟩ ⟨new ++ nw' ++ led, al⟩ := by
        have sub : ∀ p ∈ new ++ led, p ∈ new ++ nw' ++ led := fun p hp => by
          rcases List.mem_append.mp hp with hp | hp
          · exact List.mem_append_left _ (List.mem_append_left _ hp)
          · exact List.mem_append_right _ hp
        exact ⟨fun p hp _ => sub p hp, fun _ _ h => h, fun _ h => .inl h, fun p hp => ⟨p, sub p hp, rfl⟩⟩
      exact (ih.mono l1).append (.cons (hv.mono l2) .nil)
    · have ih := made_vrsT h1 (by omega)
      have : os[i]? = some none := by
        cases e : os[i]? with
        | none => rw [List.getElem?_eq_none_iff] at e; omega
        | some o =>
          have ht' : (os[i]?.getD none).isSome = false := ht
          rw [e] at ht'; cases o with
          | none => rfl
          | some v => cases ht'
      rw [List.take_add_one, this, List.filterMap_append]
      simpa using ih
end
end Mine

end

section
set_option maxRecDepth 100000
set_option autoImplicit false
set_option linter.unusedVariables false
namespace Mine
open PySem PySem.W PyProof.Rows PySem.Calls PyProof.Rows.LCg
section
variable {S : Sx} {c : Cx} {env : Env} {σ : St} {n : Nat} {W : Wd} {m : Str → Option Value} {s : Shared}
abbrev CallI (S : Sx) (c : Cx) (md : Bool) (target : Expr) (f : V) (as : List V) (σ : St) (K : List It → St → Prop) : Prop := ∀ W x xs, VR W f x → VRs W as xs → ∀ (m : Str → Option Value) (s : Shared) (Q : Value → Shared → Prop), R S c σ W m s →
  (∀ items xv σ' W' m' s', K items σ' → R S c σ' W' m' s' → Gr c [] W W' → PySrc S c md target items W' xv s' → Q xv s') → wpAny (model S.prog S.w) c.A (call x xs) Q (fun _ _ => False) s
theorem ite_call {md : Bool} {f e : Expr} {rest : List Expr} {pos : Pos} {target : Expr} {K : List It → St → Prop} (he : eval (.Call f (e :: rest) [] pos) env = (do callWith pos (← eval f env) [] (backTo pos (starEach (e :: rest) env)) (backToKw pos (keywordEach [] env))))
    (he2 : starEach (e :: rest) env = (false, eval e env) :: starEach rest env) (hp : (backTo pos (starEach rest env)).any (·.1) = false)
    (h : EvS S c env f σ fun v σ₁ => ∃ id : String, v = .old (.type id) ∧ EvsS S c env pos (e :: rest) σ₁ fun vs σ₂ => CallI S c md target (.old (.type id)) vs σ₂ K) : IteS S c md env (.Call f (e :: rest) [] pos) target σ K := fun W m s Q r q => by
  refine Call_ (h W m s _ r fun v u σ₁ W₁ m₁ s₁ h₁ r₁ l₁ e₁ => ?_) he
  obtain ⟨id, rfl, h₁⟩ := h₁
  cases e₁
  have hw := h₁ W₁ m₁ s₁ (fun vs s₂ => True ∧ wpAny (model S.prog S.w) c.A (call (.type id) ([] ++ vs)) Q (fun _ _ => False) s₂) r₁ fun vs us σ₂ W₂ m₂ s₂ h₂ r₂ l₂ e₂ => ⟨trivial, h₂ W₂ _ _ .old e₂ m₂ s₂ _ r₂ fun items xv σ' W' m' s' k r3 l3 z => q items xv σ' W' m' s' k r3 ((l₁.trans l₂).trans l3) z⟩
  rw [he2] at hw ⊢
  exact callWith_of (P := fun _ => True) (by show ((false || (backTo pos (starEach rest env)).any (·.1)) || false) = false; rw [hp]; rfl) (fun _ _ => ⟨.machine, .inr (.inl rfl), Looks.of_pure rfl⟩) (evalArgs_plain hw)
def enumP (vs : List V) : List (V × V) := vs.zipIdx.map fun p => (V.int (p.2 : Nat), p.1)
abbrev pairI (l : List (V × V)) : List It := l.map fun p => It.pair p.1 p.2
theorem enumP_get {vs : List V} {i : Nat} {v : V} (h : vs[i]? = some v) : (pairI (enumP vs))[i]? = some (.pair (.int (i : Nat)) v) := by
  simp [pairI, enumP, h]
theorem enumP_len {vs : List V} : (pairI (enumP vs)).length = vs.length := by simp [pairI, enumP]

theorem enum_src (O : Ok S c n) {md : Bool} {elts : List Expr} {k : Nat} {p : Pos} {vs : List V} {xs : List Value} {e it ax : Addr} {s' : Shared} {fp : List Addr} {P : Nat → Value → Prop} {St : Nat → Heap → Prop} (r : R S c σ W m s') (D : Draws S.prog S.w c.A.in1 it fp xs.length P St) (hfp : ∀ b ∈ fp, b = it ∨ b = ax) (hif : it ∈ fp)
    (he : IsEnum s'.heap e it 0 .none) (hst : St 0 s'.heap) (hs : ∀ p ∈ c.frz ++ W.news, p.1 < it) (hei : it < e) (hLi : c.L < it) (h0i : ∀ b, it ≤ b → c.h₀.get? b = none) (hlt : ∀ t ∈ S.tabs, c.fz = false → t.1 < it) (ha : ax < it) (hLa : c.L ≠ ax) (hP : ∀ i x, P i x → xs[i]? = some x) (ev : VRs W vs xs) (hsrc : md = true → ∃ o, (ax, o) ∈ W.news ∧ ∀ own, Keep W.al own (ax, o)) :
    PySrc S c md (.Tuple elts k p) (pairI (enumP vs)) W (.ref e) s' := fun E Q hQ => by
  have hef : e ∉ fp := fun h => by rcases hfp e h with h | h <;> (rw [h] at hei; first | exact Nat.lt_irrefl _ hei | exact Nat.lt_irrefl _ (Nat.lt_trans ha hei))
  have WT := WalksT.enumerateD D e (Nat.ne_of_gt hei) hef hif
  have WU := KTurns.ofWalksU (elts := elts) (k := k) (pos := p) WT.toU
  have hlen : xs.length = (pairI (enumP vs)).length := by rw [enumP_len, ev.length]
  rw [hlen] at WU
  refine WT.self 0 s' Q E ⟨⟨_, he⟩, hst⟩ (hQ s'.heap e (e :: fp) [e, it] _ _ _ (fun _ _ h => h) ⟨WU, fun s2 Q2 E2 st q => WT.self 0 s2 Q2 E2 st q, ⟨⟨_, he⟩, hst⟩, ?_, ?_, ?_, ?_, ?_, ?_, ?_, ?_⟩)
  · intro b hb
    rcases List.mem_cons.mp hb with rfl | hb
    · exact Heap.lt_size he
    · rcases hfp b hb with rfl | rfl
      · exact Nat.lt_trans hei (Heap.lt_size he)
      · exact Nat.lt_trans (Nat.lt_trans ha hei) (Heap.lt_size he)
  · intro hb
    rcases List.mem_cons.mp hb with h | hb
    · rw [← h] at hei; exact Nat.lt_irrefl _ (Nat.lt_trans hLi hei)
    · rcases hfp _ hb with h | h
      · rw [← h] at hLi; exact Nat.lt_irrefl _ hLi
      · exact hLa h
  · intro b hb
    rcases List.mem_cons.mp hb with rfl | hb
    · exact h0i _ (Nat.le_of_lt hei)
    · rw [List.mem_singleton.mp hb]; exact h0i _ (Nat.le_refl _)
  · intro q hq hb
    have := hs q hq
    rcases List.mem_cons.mp hb with h | hb
    · rw [h] at this; exact Nat.lt_irrefl _ (Nat.lt_trans this hei)
    · rw [List.mem_singleton.mp hb] at this; exact Nat.lt_irrefl _ this
  · intro hz t ht hb
    have := hlt t ht hz
    rcases List.mem_cons.mp hb with h | hb
    · rw [h] at this; exact Nat.lt_irrefl _ (Nat.lt_trans this hei)
    · rw [List.mem_singleton.mp hb] at this; exact Nat.lt_irrefl _ this
  · intro i h st b hb
    obtain ⟨⟨old, st1⟩, st2⟩ := st
    rcases List.mem_cons.mp hb with rfl | hb
    · exact ⟨_, st1⟩
    · rw [List.mem_singleton.mp hb]; exact D.live i h st2
  · intro hmd b hb
    rcases List.mem_cons.mp hb with rfl | hb
    · exact .inl (.head _)
    · rcases hfp b hb with rfl | rfl
      · exact .inl (.tail _ (.head _))
      · exact .inr (hsrc hmd)
  · intro i v h hi hp
    obtain ⟨T, vals, rfl, ⟨t, x, px, rfl⟩, hT⟩ := hp
    have hx := hP i x px
    have hi' : i < vs.length := by rw [enumP_len] at hi; exact hi
    obtain ⟨u, hu, hu'⟩ := ev.get (List.getElem?_eq_getElem hi')
    rw [hx] at hu
    cases hu
    exact ⟨_, enumP_get (List.getElem?_eq_getElem hi'), T, _, _, rfl, hT, .int, hu'⟩
theorem enI_tup (O : Ok S c n) {md : Bool} {elts : List Expr} {k : Nat} {p : Pos} {vs : List V} {K : List It → St → Prop} (h : K (pairI (enumP vs)) σ) : CallI S c md (.Tuple elts k p) (.old (.type "enumerate")) [.tup vs] σ K := fun W x xs hx hxs m s Q r q => by
  cases hx
  cases hxs with
  | cons h1 h2 =>
    cases h2
    obtain ⟨a, ys, rfl, a1, a2, a3⟩ := h1.isTup r
    refine callType_new PySem.F.called_enumerate (by decide) (PySem.F.typeCall_enumerate_1 _) (PySem.F.newCall_enumerate_1 _) (fun obj => PySem.F.args_object_init_2 obj _) PySem.F.entry_enumerate_new (meets_enumT a ys.toArray 0) ⟨(r.N _ a1).1, ?_⟩
    have hz : (s.heap.push { cls := .type "tuple_iterator", data := .fields #[.ref a, .int 0 0] }).objs.size = s.heap.objs.size + 1 := Heap.size_push ..
    have up : ∀ b o, s.heap.get? b = some o → ((s.heap.push { cls := .type "tuple_iterator", data := .fields #[.ref a, .int 0 0] }).push { cls := .type "enumerate", data := .fields #[.none, .bool false, .ref s.heap.objs.size, rawInt 0, .none, .none] }).get? b = some o := fun b o e => Heap.get?_push_of_some _ (Heap.get?_push_of_some _ e)
    have hE : IsEnum ((s.heap.push { cls := .type "tuple_iterator", data := .fields #[.ref a, .int 0 0] }).push { cls := .type "enumerate", data := .fields #[.none, .bool false, .ref s.heap.objs.size, rawInt 0, .none, .none] }) (s.heap.push { cls := .type "tuple_iterator", data := .fields #[.ref a, .int 0 0] }).objs.size s.heap.objs.size 0 .none := Heap.get?_push_size _ rfl
    have hlt : a < s.heap.objs.size := Heap.lt_size (r.N _ a1).1
    have D := drawsT (prog := S.prog) (w := S.w) (A := c.A.in1) O.hh s.heap.objs.size a (Nat.ne_of_lt hlt) ys.toArray
    rw [List.size_toArray] at D
    refine ⟨⟨_, hE, rfl⟩, q _ _ σ W m _ h (r.keep (tk := s.toks) up) .refl (enum_src O (it := s.heap.objs.size) (ax := a) (r.keep (tk := s.toks) up) D (fun b hb => by simpa using hb) (by simp) hE ⟨⟨_, Heap.get?_push_of_some _ (Heap.get?_push_size _ rfl), rfl, rfl⟩, _, up _ _ (r.N _ a1).1, rfl, _, rfl⟩ (lt_size r) (by rw [hz]; exact Nat.lt_succ_self _) r.F.ns.lt (fun b hb => ?_) (fun t ht hz => r.tabLt hz t ht) hlt (fun e => (r.N _ a1).2.1 e.symm) (fun i x hx => by simpa using hx) a2 (fun _ => ⟨_, a1, fun own => keep_tup _ _ _ _⟩))⟩
    cases e : c.h₀.get? b with
    | none => rfl
    | some o => exact absurd (Heap.lt_size (r.F.keep b o e)) (Nat.not_lt.mpr hb)
end
end Mine

end

section
set_option maxRecDepth 100000
set_option autoImplicit false
set_option linter.unusedVariables false
namespace Mine
open PySem PySem.W PyProof.Rows PySem.Calls PyProof.Rows.LCg
theorem zap_of (B a b : Nat) (la : a < B) (lb : b < B) : ZAp (B + 4) (B + 2) (B + 3) B (B + 1) [B, a] [B + 1, b] := by
  have h1 : ∀ i, B + i ≠ a := fun i => by omega
  have h2 : ∀ i, B + i ≠ b := fun i => by omega
  have h3 : ∀ i, B + (i + 1) ≠ B := fun i => by omega
  have h4 : ∀ i j, i ≠ j → B + i ≠ B + j := fun i j => by omega
  have h5 : B ≠ b := by omega
  have h6 : ∀ i, B ≠ B + (i + 1) := fun i => by omega
  constructor
  · simp only [List.mem_cons, List.not_mem_nil, or_false, not_or]; exact ⟨h3 3, h1 4⟩
  · simp only [List.mem_cons, List.not_mem_nil, or_false, not_or]; exact ⟨h4 4 1 (by decide), h2 4⟩
  · simp only [List.mem_cons, List.not_mem_nil, or_false, not_or]; exact ⟨h3 2, h1 3⟩
  · simp only [List.mem_cons, List.not_mem_nil, or_false, not_or]; exact ⟨h4 3 1 (by decide), h2 3⟩
  · exact .head _
  · exact .head _
  · simp only [List.mem_cons, List.not_mem_nil, or_false, not_or]; exact ⟨h6 0, h5⟩
  · simp only [List.mem_cons, List.not_mem_nil, or_false, not_or]; exact ⟨h3 0, h1 1⟩
  · exact h4 3 4 (by decide)
  · exact h4 2 4 (by decide)
  · exact h4 2 3 (by decide)
  · exact h3 1
  · exact h4 2 1 (by decide)
theorem ad_lt {B x : Nat} (h : x < B) (i : Nat) : x < B + i := by omega
theorem ad_off {B x : Nat} (h : x < B) : ∀ i, x ≠ B + i := fun i => by omega
theorem ad_ge (B i : Nat) : B ≤ B + i := by omega
theorem ad_m {B i j : Nat} (h : i < j) : B + i < B + j := by omega
section
variable {S : Sx} {c : Cx} {env : Env} {σ : St} {n : Nat} {W : Wd} {m : Str → Option Value} {s : Shared}
end
end Mine

end

section
set_option maxRecDepth 100000
set_option autoImplicit false
set_option linter.unusedVariables false
namespace Mine
open PySem PySem.W PyProof.Rows PySem.Calls PyProof.Rows.LCg
structure RngOk (k : Nat) : Prop where
  h : k < 1000
theorem rng_small (k : Nat) (h : k < 1000) : Builtin.Range.small 0 (k : Int) 1 = true ∧ Builtin.Range.rangeSize 0 (k : Int) 1 = (k : Int) := by
  have e : Builtin.Range.rangeSize 0 (k : Int) 1 = (k : Int) := by rw [PyProof.Rows.rangeSize_nat]; omega
  refine ⟨?_, e⟩
  unfold Builtin.Range.small
  rw [e]
  simp [Builtin.Range.rangeFitsLong]
  omega
section
variable {S : Sx} {c : Cx} {env : Env} {σ : St} {n : Nat}

theorem loop_invL {target : Expr} {body : List Stmt} {P : Fl → St → Prop} {J : Nat → St → Prop} (k : Nat)
    (turn : ∀ i σ, i < k → J i σ → ∀ c' : Cx, c'.fenv = c.fenv → c'.fz = c.fz → c'.el = c.el → Ok S c' n → AsgI S c' target (.val (.int (0 + (i : Int) * 1))) σ fun _ σ₁ => BlS S c' body σ₁ fun fl σ₂ => fl = .next ∧ J (i + 1) σ₂)
    (hend : ∀ σ, J k σ → P .next σ) : ∀ (m i : Nat) (σ : St), i + m = k → J i σ → LoopS S c n target body ((List.range' i m).map fun (i : Nat) => It.val (.int (0 + (i : Int) * 1))) σ P
  | 0, i, σ, e, h => by
    have : i = k := by omega
    subst this
    exact lp_nil (hend σ h)
  | m + 1, i, σ, e, h => by
    rw [List.range'_succ, List.map_cons]
    refine lp_cons fun c' a b d o => ?_
    intro W x mm s Q r hx q
    refine turn i σ (by omega) h c' a b d o W x mm s Q r hx fun g b' σ' W' m' s' p => q g b' σ' W' m' s' ?_
    intro W2 m2 s2 Q2 r2 q2
    refine p W2 m2 s2 Q2 r2 fun fl b2 σ3 W3 m3 s3 p3 => q2 fl b2 σ3 W3 m3 s3 ?_
    obtain ⟨rfl, hj⟩ := p3
    exact loop_invL k turn hend m (i + 1) σ3 (by omega) hj
theorem loop_inv {target : Expr} {body : List Stmt} {P : Fl → St → Prop} {J : Nat → St → Prop} (k : Nat) (h0 : J 0 σ)
    (turn : ∀ i σ, i < k → J i σ → ∀ c' : Cx, c'.fenv = c.fenv → c'.fz = c.fz → c'.el = c.el → Ok S c' n → AsgI S c' target (.val (.int (0 + (i : Int) * 1))) σ fun _ σ₁ => BlS S c' body σ₁ fun fl σ₂ => fl = .next ∧ J (i + 1) σ₂)
    (hend : ∀ σ, J k σ → P .next σ) : LoopS S c n target body (rngI 0 1 k) σ P := by
  have := loop_invL k turn hend k 0 σ (by omega) h0
  rw [← List.range_eq_range'] at this
  exact this
theorem src_rngK (O : Ok S c n) {md : Bool} {x : Str} {px : Pos} {k : Nat} {K : List It → St → Prop} (hR : RngOk k) (h : K (rngI 0 1 k) σ) : SrcS S c md (.Name x px) (.rng 0 (k : Int) 1) σ K := src_rng O k (rng_small k hR.h).1 (rng_small k hR.h).2 h
end
end Mine

end

section
set_option maxRecDepth 100000
set_option autoImplicit false
set_option linter.unusedVariables false
namespace Mine
open PySem PySem.W PyProof.Rows PySem.Calls PyProof.Rows.LCg
section
variable {S : Sx} {c : Cx} {env : Env} {σ : St} {n : Nat} {W : Wd} {m : Str → Option Value} {s : Shared}
theorem lookup_pair {α : Type} {x : Str} {v : α} : ∀ {l : List (Str × α)}, l.lookup x = some v → (x, v) ∈ l
  | [], h => by cases h
  | (a, b) :: r, h => by
    rw [List.lookup_cons] at h
    cases q : x == a with
    | true => rw [q] at h; cases h; rw [beq_iff_eq.mp q]; exact .head _
    | false => rw [q] at h; exact .tail _ (lookup_pair h)
theorem snd_inj {x y : Str} {a : Addr} : ∀ {l : List (Str × Addr)}, (l.map (·.2)).Nodup → (x, a) ∈ l → (y, a) ∈ l → x = y
  | [], _, h, _ => nomatch h
  | p :: r, nd, h, h' => by
    rw [List.map_cons, List.nodup_cons] at nd
    rcases List.mem_cons.mp h with e | h
    · rcases List.mem_cons.mp h' with e' | h'
      · have := e.trans e'.symm; cases this; rfl
      · exact absurd (List.mem_map.mpr ⟨_, h', by rw [← e]⟩) nd.1
    · rcases List.mem_cons.mp h' with e' | h'
      · exact absurd (List.mem_map.mpr ⟨_, h, by rw [← e']⟩) nd.1
      · exact snd_inj nd.2 h h'

theorem R.celSet {h' : Heap} {a : Addr} {x : Str} {v : V} {u : Value} {o' : Obj} (r : R S c σ W m s) (hz : c.fz = false) (nd : (c.fenv.cells.map (·.2)).Nodup) (hx : c.fenv.cells.lookup x = some a) (ho : h'.get? a = some o') (hd : o'.data = .cell (some u)) (hs : Heap.SameBut a s.heap h') (hv : VR W v u) :
    R S c (setL x v σ) ⟨upd a o' W.news, W.al⟩ m { s with heap := h' } ∧ Gr c (ownOf c) W ⟨upd a o' W.news, W.al⟩ := by
  have hm := lookup_pair hx
  obtain ⟨o, v0, h1, h2⟩ := r.cel _ hm
  have z := r.N _ h1
  have cons : ∀ p ∈ W.news, p.1 = a → p.2 = o := fun p hp e => by
    have := (r.N p hp).1
    rw [e, z.1] at this; exact (Option.some.inj this).symm
  have hown : a ∈ ownOf c := List.mem_map.mpr ⟨_, hm, rfl⟩
  have l : Le (ownOf c) W ⟨upd a o' W.news, W.al⟩ := ⟨fun p hp hk => upd_mem hp fun e => by
    have := cons p hp e
    exact hk.c (by rw [this]; simp [isCel, h2]) (by rw [e]; exact hown), fun _ _ h => h, fun _ h => .inl h, fun p hp => by
    by_cases e : p.1 = a
    · exact ⟨_, updW_self (o' := p.2) (by rw [← e]; exact hp), e.symm⟩
    · exact ⟨p, upd_mem hp e, rfl⟩⟩
  refine ⟨⟨r.F.change hs z.2.1 z.2.2, fun p hp => ?_, fun y w e => ?_, fun y hy => ?_, r.cvz, fun y w e => (by obtain ⟨u, oC, mC, h1, h2⟩ := r.cv y w e; exact ⟨u, oC, mC, h1.mono l, h2⟩), fun j ws e => ?_, r.len, r.nd, fun p hp => ?_, r.fd, fun hz q hq p hp => (let ⟨p', hp', e'⟩ := List.mem_map.mp hp; upd_ne e' (r.fx hz q hq p' hp')), fun h => (by rw [hz] at h; cases h), r.mfix, fun hz t ht => ?_, r.gens, r.os⟩, l, fun h => by rw [hz] at h; cases h⟩
  · obtain ⟨q, hq, rfl⟩ := List.mem_map.mp hp
    split
    · exact ⟨ho, z.2⟩
    · rename_i e; exact ⟨(hs.2 _ e).trans (r.N q hq).1, (r.N q hq).2⟩
  · simp only [setL, List.lookup_cons] at e
    cases q : y == x with
    | true =>
      rw [q] at e; cases e
      refine ⟨u, hv.mono l, ?_⟩
      unfold LocAt
      rw [beq_iff_eq.mp q, hx]
      exact ⟨o', updW_self h1, hd⟩
    | false =>
      rw [q] at e
      obtain ⟨t, t1, t2⟩ := r.loc y w e
      refine ⟨t, t1.mono l, ?_⟩
      unfold LocAt at t2 ⊢
      cases hc : c.fenv.cells.lookup y with
      | none => rw [hc] at t2; exact t2
      | some a' =>
        rw [hc] at t2
        obtain ⟨o1, t3, t4⟩ := t2
        refine ⟨o1, upd_mem t3 fun e' => ?_, t4⟩
        have e' : a' = a := e'
        subst e'
        exact beq_eq_false_iff_ne.mp q (snd_inj nd (lookup_pair hc) hm)
  · by_cases e : y.2 = a
    · exact ⟨o', _, by rw [e]; exact updW_self h1, hd⟩
    · obtain ⟨o1, v1, t1, t2⟩ := r.cel y hy
      exact ⟨o1, v1, upd_mem t1 e, t2⟩
  · obtain ⟨b, ys, n', t1, t2, t3⟩ := r.ls j ws e
    refine ⟨b, ys, n', t1, upd_mem t2 fun q => ?_, t3.mono l⟩
    have := cons _ t2 q
    rw [← this] at h2; cases h2
  · have q := r.fz p hp
    exact ⟨(hs.2 _ fun e => (r.fd hz p hp).2.2 _ hm e.symm).trans q.1, q.2⟩
  · obtain ⟨ps, t1, t2⟩ := r.tabs hz t ht
    refine ⟨ps, upd_mem t1 fun q => ?_, t2⟩
    have := cons _ t1 q
    rw [← this] at h2; cases h2
theorem sto_cel (O : Ok S c n) (hfz : c.fz = false) {x : Str} {a : Addr} {v : V} {P : Unit → St → Prop} {E : Env} (hE : c.fenv = E) (hk : E.kindOf x = some .cell) (hc : E.cells.lookup x = some a) (h : P () (setL x v σ)) : StoS S c x v σ P := fun W u hu m s Q r q => by
  subst hE
  obtain ⟨o, v0, h1, h2⟩ := r.cel _ (lookup_pair hc)
  refine wpAny_storeName_cell O.hke hk hc ⟨o, (r.N _ h1).1, h2⟩ fun h' hn hs => ?_
  obtain ⟨o', ho, hd⟩ := hn
  obtain ⟨r2, g⟩ := r.celSet hfz O.hcd hc ho hd hs hu
  exact q () () _ _ _ _ h r2 g trivial
end
end Mine

end

section
set_option maxRecDepth 100000
set_option autoImplicit false
set_option linter.unusedVariables false
namespace Mine
open PySem PySem.W PyProof.Rows PySem.Calls PyProof.Rows.LCg
section
variable {S : Sx} {c : Cx} {env : Env} {σ : St} {n : Nat}
theorem enI_lst (O : Ok S c n) {elts : List Expr} {k j : Nat} {p : Pos} {vs : List V} {K : List It → St → Prop} (hk : σ.ls[j]? = some vs) (h : K (pairI (enumP vs)) σ) : CallI S c false (.Tuple elts k p) (.old (.type "enumerate")) [.lst j] σ K := fun W x xs hx hxs m s Q r q => by
  cases hx
  cases hxs with
  | cons h1 h2 =>
    cases h2
    obtain ⟨a, ys, c1, rfl, a1, a2, a3⟩ := r.lstAt hk h1
    have hlt : a < s.heap.objs.size := Heap.lt_size (r.N _ a2).1
    refine call_enumerate_list (isL_of a2 r) fun h' hE hI hsz up => ?_
    have D := Draws.list (prog := S.prog) (w := S.w) (A := c.A.in1) O.hh s.heap.objs.size a (Nat.ne_of_lt hlt) ys.toArray
    have e1 : ys.toArray.size = ys.length := by simp
    rw [e1] at D
    refine q _ _ σ W m _ h (r.keep (tk := s.toks) up) .refl (enum_src O (it := s.heap.objs.size) (ax := a) (r.keep (tk := s.toks) up) D (fun b hb => by simpa using hb) (by simp) hE ⟨hI, _, up _ _ (r.N _ a2).1, rfl, _, rfl⟩ (lt_size r) (Nat.lt_succ_self _) r.F.ns.lt (fun b hb => ?_) (fun t ht hz => r.tabLt hz t ht) hlt (fun e => (r.N _ a2).2.1 e.symm) (fun i x hx => by simpa using hx) a3 (fun h => nomatch h))
    cases e : c.h₀.get? b with
    | none => rfl
    | some o => exact absurd (Heap.lt_size (r.F.keep b o e)) (Nat.not_lt.mpr hb)
end
end Mine

end

section
set_option maxRecDepth 100000
set_option autoImplicit false
set_option linter.unusedVariables false
namespace Mine
open PySem PySem.W PyProof.Rows PySem.Calls PyProof.Rows.LCg
section
variable {S : Sx} {c : Cx} {env : Env} {σ : St} {n : Nat}

theorem wh_inv {test : Expr} {body : List Stmt} {P : Fl → St → Prop} {J : Nat → St → Prop}
    (turn : ∀ k σ, J k σ → TestS S c c.fenv test σ fun b σ₁ => if b = true then (BlS S c body σ₁ fun fl σ₂ => fl = .next ∧ ∃ k', k' < k ∧ J k' σ₂) else P .next σ₁) : ∀ (k : Nat) (σ : St), J k σ → WhS S c test body σ P := by
  intro k
  induction k using Nat.strongRecOn with
  | ind k ih =>
    intro σ h
    refine wh_turn fun W m s Q r q => ?_
    refine turn k σ h W m s Q r fun b b' σ₁ W' m' s' p => q b b' σ₁ W' m' s' ?_
    cases b with
    | true =>
      have p : BlS S c body σ₁ fun fl σ₂ => fl = .next ∧ ∃ k', k' < k ∧ J k' σ₂ := p
      show BlS S c body σ₁ (whK S c test body P)
      intro W2 m2 s2 Q2 r2 q2
      refine p W2 m2 s2 Q2 r2 fun fl b2 σ3 W3 m3 s3 p3 => q2 fl b2 σ3 W3 m3 s3 ?_
      obtain ⟨rfl, k', hk, hj⟩ := p3
      exact ih k' hk σ3 hj
    | false => exact p
end
end Mine

end

section
set_option maxRecDepth 100000
set_option autoImplicit false
set_option linter.unusedVariables false
namespace Mine
open PySem PySem.W PyProof.Rows PySem.Calls PyProof.Rows.LCg
section
variable {S : Sx} {c : Cx} {env : Env} {σ : St} {n : Nat} {W : Wd} {m : Str → Option Value} {s : Shared}

theorem comp_X (O : Ok S c n) (hfz : c.fz = true) (hel : c.el = true) {scope : Scope} {cl : List (Str × Addr)} {target elt iter : Expr} {y : Str} {py : Pos} {pos : Pos} {K : List V → Prop} {Q : Value → Shared → Prop} (hclos : closureFor scope c.fenv = pure cl) (hcell : ∀ y ∈ scope.names, y.2 ≠ .cell) (hk : scope.kind = .function)
    (hnames : ∀ y ∈ scope.names, y.2 = .local → scope.names.lookup y.1 = some .local) (hy : scope.names.lookup y = some .local) (hdb : (y == ("__debug__" : Str)) = false) (hs : ∀ x, foldedSetIterable iter c.fenv x = pure x)
    (h : IteS S c false c.fenv iter target σ fun items σ₁ => TgOk scope target items ∧ items.length ≤ 1000 ∧ CompI S c n scope cl target elt y σ₁ items K) (hm : m = c.mm) (r : R S c σ W m s)
    (q : ∀ outs D ys nw h' tk', K outs → Fr c.h₀ c.L h' m → News c.h₀ c.L h' ((D, lst ys) :: (nw ++ W.news)) → (∀ b ∈ c.frz, @LT.lt Nat _ b.1 D) → (∀ b ∈ c.frz, ∀ q ∈ nw, @LT.lt Nat _ b.1 q.1) → VRs ⟨nw ++ W.news, W.al⟩ outs ys → Q (.ref D) ⟨h', c.gens, c.drawn, tk', c.os⟩) :
    wpAny (model S.prog S.w) c.A (eval (.ListComp elt [⟨target, iter, [.Name y py], 0⟩] scope pos) c.fenv) Q (fun _ _ => False) s := by
  rw [eval_ListComp]
  refine wpAny_comprehension_free (use := none) rfl hs hclos hk hnames (h W m s _ r fun items xv σ₁ W₁ m₁ s₁ h₁ r₁ l₁ X₁ => ?_)
  obtain ⟨ht, hz, hc⟩ := h₁
  obtain ⟨os, hP, ho, hte, he⟩ := hc.outs
  have em : m₁ = m := (r₁.mfix hel).trans hm.symm
  subst em
  obtain ⟨al1, new1, nws1, lo1⟩ := l₁.fz hfz
  obtain ⟨cg, cd⟩ := r₁.calm hfz
  have cos := r₁.os
  refine X₁ _ _ fun h₂ I fp wr P' Md St up Y => ?_
  have F₂ : Fr c.h₀ c.L h₂ m₁ := r₁.F.keeps up
  have N₂ : News c.h₀ c.L h₂ (c.frz ++ W₁.news) := r₁.all.grown up
  refine cmBlock1 (tst := fun i => (os[i]?.getD none).isSome) (Bind := fun i m' => ∃ e, items[i]? = some e ∧ CvR W₁ (cvOf target e) m') (Φ := fun i y new => ∃ out, os[i]? = some (some out) ∧ VR ⟨new ++ W₁.news, W₁.al⟩ out y) (KTurns.bd Y.T) (by rw [sizeLine_eq]; omega) Y.self
    (asgC (S := S) (c := c) (env := c.fenv) (W := W₁) (P := fun i v h => i < items.length ∧ P' i v h) (cl := cl) O.hh hk ht fun i v h hp => ?_) hcell hk Y.st Y.lt Y.L Y.wr0 Y.nw F₂ N₂ (fun C i mC s' Q' E' hi hb hns hq => ?_) ?_ fun D C h tk m' ys nw F' N' lo hi hDC hLD hn hC₀ hD₀ hm => ?_
  · obtain ⟨e, h1, h2⟩ := Y.it i v h hp.1 hp.2
    exact ⟨e, h1, h2⟩
  · obtain ⟨e, h1, h2⟩ := hb
    obtain ⟨z, z1, z2⟩ := hte i e h1
    obtain ⟨u, u1, u2⟩ := h2 y _ z1
    cases u2
    refine wpAny_isTrue_value (wpAny_Name (wpAny_loadName_local hk (lookup_relabel_local hy) hns u1 (PySem.P.truthy_int ?_)) hdb) rfl
    rw [← z2]; exact hq
  · intro i C oC zs u m₂ E' hi hti hb hn hC F N sub
    obtain ⟨e, h1, h2⟩ := hb
    obtain ⟨out, hout⟩ : ∃ out, os[i]? = some (some out) := by
      have hti' : (os[i]?.getD none).isSome = true := hti
      cases e' : os[i]? with
      | none => rw [e'] at hti'; cases hti'
      | some o => cases o with
        | none => rw [e'] at hti'; cases hti'
        | some v => exact ⟨v, rfl⟩
    have O' : Ok S { c with C := C, fz := true, frz := zs, os := u.os, gens := u.gens, drawn := u.drawn, el := true, mm := m₁ } n := ⟨O.B, O.X, O.T, O.M, O.hA, O.hf, O.hke, O.hh, O.hd, O.hu, O.hl, O.hg, O.hb, O.hcd, O.old⟩
    have r' : R S { c with C := C, fz := true, frz := zs, os := u.os, gens := u.gens, drawn := u.drawn, el := true, mm := m₁ } ⟨σ₁.loc, cvOf target e, σ₁.ls⟩ W₁ m₁ u := by
      refine ⟨F, fun p hp => N p (sub p (List.mem_append_right _ hp)), r₁.loc, r₁.cel, fun h => (nomatch h), fun x v q => ?_, r₁.ls, r₁.len, r₁.nd, N, fun h => (nomatch h), fun h => (nomatch h), fun _ => ⟨rfl, rfl⟩, fun _ => rfl, fun h => (nomatch h), fun h => (nomatch h), rfl⟩
      obtain ⟨w, a, b⟩ := h2 x v q
      exact ⟨w, oC, m₂, b, hC, hn, a⟩
    refine wpAny_mono (he i e _ h1 hout { c with C := C, fz := true, frz := zs, os := u.os, gens := u.gens, drawn := u.drawn, el := true, mm := m₁ } rfl rfl O' W₁ m₁ u (EltPost c.L c.h₀ zs u m₁ _ i) r' fun v y σ' W' m' s' hv r3 g3 e3 => ?_) (fun _ _ z => z) (fun _ _ z => z.elim)
    subst hv
    obtain ⟨a1, new, a2, a3⟩ := g3.fz rfl
    have hm' : Fr c.h₀ c.L s'.heap m₁ := (show m' = m₁ from r3.mfix rfl) ▸ r3.F
    refine ⟨new, hm', fun p hp => ?_, ⟨s'.heap, s'.toks, ?_⟩, fun b hb q hq => (a3 q hq).2 b hb, fun q hq => (a3 q hq).1, _, hout, ?_⟩
    · rcases List.mem_append.mp hp with hp | hp
      · exact r3.N p (by rw [a2]; exact List.mem_append_left _ hp)
      · exact r3.fz p hp
    · obtain ⟨b1, b2⟩ := r3.calm rfl
      have b3 := r3.os
      cases s'
      cases u
      simp only at b1 b2 b3
      rw [b1, b2, b3]
    · have : W' = ⟨new ++ W₁.news, W₁.al⟩ := by cases W'; simp only at a1 a2; rw [a1, a2]
      rw [← this]
      exact e3
  · have hv := made_vrsT hm (by omega)
    rw [← ho, List.take_length] at hv
    refine ⟨m', hn, fun h'' hs'' => ?_⟩
    have fin : ∀ p ∈ (D, lst ys) :: (nw ++ (c.frz ++ W₁.news)), h''.get? p.1 = some p.2 ∧ p.1 ≠ c.L ∧ c.h₀.get? p.1 = none := fun p hp => by
      refine ⟨hs''.extBut _ _ ?_ (N' p hp).1, (N' p hp).2⟩
      rcases List.mem_cons.mp hp with rfl | hp
      · exact Nat.ne_of_lt hDC
      rcases List.mem_append.mp hp with hp | hp
      · exact Nat.ne_of_gt (hi p hp)
      · exact Nat.ne_of_lt (Nat.lt_trans (lo p hp) hDC)
    have key := q (os.filterMap id) D ys (nw ++ new1) h'' tk hP (F'.change hs'' (Nat.ne_of_gt (Nat.lt_trans hLD hDC)) hC₀) (fun p hp => by
      rcases List.mem_cons.mp hp with rfl | hp
      · exact fin _ (.head _)
      · rw [List.append_assoc, ← nws1] at hp
        rcases List.mem_append.mp hp with hp | hp
        · exact fin p (.tail _ (List.mem_append_left _ hp))
        · exact fin p (.tail _ (List.mem_append_right _ (List.mem_append_right _ hp)))) (fun b hb => lo b (List.mem_append_left _ hb)) (fun b hb q hq => by
      rcases List.mem_append.mp hq with hq | hq
      · exact Nat.lt_trans (Nat.lt_trans (lo b (List.mem_append_left _ hb)) hDC) (hi q hq)
      · exact (lo1 q hq).2 b hb) (by rw [List.append_assoc, ← nws1, ← al1]; exact hv)
    rw [← cg, ← cd, ← cos] at key
    exact key

def PairsIn (led : List (Addr × Obj)) : List (Int × Int) → List Value → Prop
  | [], [] => True
  | p :: r, y :: ys => (∃ t ti tz, y = .ref t ∧ (t, tupO #[.int p.1 ti, .int p.2 tz]) ∈ led) ∧ PairsIn led r ys
  | _, _ => False
def pairV (p : Int × Int) : V := .tup [.int p.1, .int p.2]
theorem PairsIn.mono {led led' : List (Addr × Obj)} (k : ∀ p ∈ led, p ∈ led') : ∀ {l : List (Int × Int)} {ys : List Value}, PairsIn led l ys → PairsIn led' l ys
  | [], [], _ => trivial
  | p :: r, y :: ys, ⟨⟨t, ti, tz, e, h⟩, h'⟩ => ⟨⟨t, ti, tz, e, k _ h⟩, h'.mono k⟩
  | [], _ :: _, h => h.elim
  | _ :: _, [], h => h.elim
theorem PairsIn.of {W : Wd} : ∀ {l : List (Int × Int)} {ys : List Value}, VRs W (l.map pairV) ys → PairsIn W.news l ys
  | [], _, .nil => trivial
  | p :: r, _, .cons h h' => by
    refine ⟨?_, .of h'⟩
    cases h with
    | tup hm hv =>
      cases hv with
      | cons h1 h2 => cases h2 with
        | cons h3 h4 =>
          cases h4; cases h1; cases h3
          exact ⟨_, _, _, rfl, hm⟩
theorem PairsIn.vrs {W : Wd} : ∀ {l : List (Int × Int)} {ys : List Value}, PairsIn W.news l ys → VRs W (l.map pairV) ys
  | [], [], _ => .nil
  | p :: r, y :: ys, ⟨⟨t, ti, tz, e, h⟩, h'⟩ => by
    subst e
    exact .cons (.tup (xs := [_, _]) h (.cons .int (.cons .int .nil))) h'.vrs
  | [], _ :: _, h => h.elim
  | _ :: _, [], h => h.elim
def mcI (c na : Int) : List (Int × Int) := (if (c != 0) = true then [(0, c)] else []) ++ (if (na != 0) = true then [(1, na)] else [])
end
end Mine

end

section
set_option maxRecDepth 100000
set_option autoImplicit false
set_option linter.unusedVariables false
set_option Elab.async false
set_option maxHeartbeats 4000000
open PySem PySem.W PyProof.Rows PySem.Calls
namespace Mine
open PyProof.Rows.LCg
theorem PairsIn.monoT {led led' : List (Addr × Obj)} (k : ∀ p ∈ led, ∀ {vs}, p.2 = tupO vs → p ∈ led') : ∀ {l : List (Int × Int)} {ys : List Value}, PairsIn led l ys → PairsIn led' l ys
  | [], [], _ => trivial
  | p :: r, y :: ys, ⟨⟨t, ti, tz, e, h⟩, h'⟩ => ⟨⟨t, ti, tz, e, k _ h rfl⟩, h'.monoT k⟩
  | [], _ :: _, h => h.elim
  | _ :: _, [], h => h.elim
abbrev mcE (p1 p2 p3 p4 p5 p6 p7 p8 p9 p10 p11 : Pos) (sc : Scope) : Expr := .ListComp (.Tuple [.Name (Str.ofString "i") p1, .Name (Str.ofString "c") p2] 0 p3) [⟨.Tuple [.Name (Str.ofString "i") p4, .Name (Str.ofString "c") p5] 0 p6, .Call (.Name (Str.ofString "enumerate") p7) [.Name (Str.ofString "modulus_coeffs") p8] [] p9, [.Name (Str.ofString "c") p10], 0⟩] sc p11
section
variable {S : Sx} {c : Cx} {n : Nat} (hK : S.K = hd.heap_39 S.w.params)
include hK
theorem mc_S (O : Ok S c n) (hfz : c.fz = true) (hel : c.el = true) {sc : Scope} {cl : List (Str × Addr)} {p1 p2 p3 p4 p5 p6 p7 p8 p9 p10 p11 : Pos} {cc na : Int} {Q : Value → Shared → Prop} {W : Wd} {m : Str → Option Value} {s : Shared} {E : Env} (hE : c.fenv = E)
    (hclos : closureFor sc c.fenv = pure cl) (hsc : sc.kind = .function) (hsn : sc.names = [(Str.ofString ".0", .local), (Str.ofString "i", .local), (Str.ofString "c", .local)])
    (k1 : E.kindOf (Str.ofString "modulus_coeffs") = some .local) (k2 : E.cells.lookup (Str.ofString "modulus_coeffs") = none) (k3 : E.kindOf (Str.ofString "enumerate") = some .globalImplicit) (hm : m = c.mm)
    {v : V} {ls : List (List V)} (hv : v = .lst 0 ∧ ls = [[.int cc, .int na]] ∨ v = .tup [.int cc, .int na])
    (r : R S c ⟨[(Str.ofString "modulus_coeffs", v)], [], ls⟩ W m s)
    (q : ∀ D ys nw h' tk', Fr c.h₀ c.L h' m → News c.h₀ c.L h' ((D, lst ys) :: (nw ++ W.news)) → (∀ b ∈ c.frz, @LT.lt Nat _ b.1 D) → (∀ b ∈ c.frz, ∀ q ∈ nw, @LT.lt Nat _ b.1 q.1) → PairsIn (nw ++ W.news) (mcI cc na) ys → Q (.ref D) ⟨h', c.gens, c.drawn, tk', c.os⟩) :
    wpAny (model S.prog S.w) c.A (eval (mcE p1 p2 p3 p4 p5 p6 p7 p8 p9 p10 p11 sc) c.fenv) Q (fun _ _ => False) s := by
  have loc : ∀ x, (x = Str.ofString "i" ∨ x = Str.ofString "c") → sc.names.lookup x = some .local := fun x hx => by rw [hsn]; rcases hx with rfl | rfl <;> rfl
  have elt : ∀ (i z : Int) (σ : St) (it : It), cvOf (.Tuple [.Name (Str.ofString "i") p4, .Name (Str.ofString "c") p5] 0 p6) it = [(Str.ofString "i", .int i), (Str.ofString "c", .int z)] → ∀ c' : Cx, c'.fenv = c.fenv → c'.fz = true → Ok S c' n →
      EvS S c' (compEnvC sc cl c'.C c'.fenv) (.Tuple [.Name (Str.ofString "i") p1, .Name (Str.ofString "c") p2] 0 p3) ⟨σ.loc, cvOf (.Tuple [.Name (Str.ofString "i") p4, .Name (Str.ofString "c") p5] 0 p6) it, σ.ls⟩ fun v _ => v = pairV (i, z) := fun i z σ it e c' _ _ _ => by
    rw [e]
    refine ev_tuple (evs_cons rfl (cev_loc rfl hsc (lookup_relabel_local (loc _ (.inl rfl))) rfl (by decide) (evs_cons rfl (cev_loc rfl hsc (lookup_relabel_local (loc _ (.inr rfl))) rfl (by decide) (evs_nil ⟨Nat.le_of_ble_eq_true rfl, rfl⟩)))))
  have fin : ∀ σ : St, TgOk sc (.Tuple [.Name (Str.ofString "i") p4, .Name (Str.ofString "c") p5] 0 p6) (pairI (enumP [.int cc, .int na])) ∧ (pairI (enumP [V.int cc, V.int na])).length ≤ 1000 ∧
      CompI S c n sc cl (.Tuple [.Name (Str.ofString "i") p4, .Name (Str.ofString "c") p5] 0 p6) (.Tuple [.Name (Str.ofString "i") p1, .Name (Str.ofString "c") p2] 0 p3) (Str.ofString "c") σ (pairI (enumP [.int cc, .int na])) fun outs => outs = (mcI cc na).map pairV := fun σ => by
    refine ⟨.inr ⟨_, _, _, _, _, _, rfl, loc _ (.inl rfl), loc _ (.inr rfl), by decide, tg_pair _⟩, Nat.le_of_ble_eq_true rfl, cc, rfl, ?_⟩
    unfold mcI
    by_cases h1 : (cc != 0) = true
    · rw [if_pos h1]
      refine ⟨_, elt 0 cc σ (.pair (.int 0) (.int cc)) rfl, na, rfl, ?_⟩
      by_cases h2 : (na != 0) = true
      · rw [if_pos h2]
        refine ⟨_, elt 1 na σ (.pair (.int 1) (.int na)) rfl, ?_⟩
        rw [if_pos h1, if_pos h2]; rfl
      · rw [if_neg h2, if_pos h1, if_neg h2]; rfl
    · rw [if_neg h1]
      refine ⟨na, rfl, ?_⟩
      by_cases h2 : (na != 0) = true
      · rw [if_pos h2]
        refine ⟨_, elt 1 na σ (.pair (.int 1) (.int na)) rfl, ?_⟩
        rw [if_neg h1, if_pos h2]; rfl
      · rw [if_neg h2, if_neg h1, if_neg h2]; rfl
  refine comp_X (n := n) (y := Str.ofString "c") (K := fun outs => outs = (mcI cc na).map pairV) O hfz hel hclos (by rw [hsn]; decide) hsc (by rw [hsn]; decide) (loc _ (.inr rfl)) (by decide) (fun _ => rfl) ?_ hm r fun outs D ys nw h' tk' ho F' N' lo hi hv => q D ys nw h' tk' F' N' lo hi (by rw [ho] at hv; exact .of hv)
  refine ite_call rfl rfl rfl (evB hK O hE k3 (by decide) (b_enumerate _) bb_enumerate (by decide) ⟨_, rfl, evs_cons rfl (ev_loc O hE k1 k2 rfl (by decide) (evs_nil ?_))⟩)
  rcases hv with ⟨rfl, rfl⟩ | rfl
  · exact enI_lst O rfl (fin _)
  · exact enI_tup O (fin _)
end

theorem mc_K {prog : Program} {w : World} {p : Program} {loose : List Str} {mg mb mg' : Str → Option Value} {A A₀ : Around} {base h₀ g : Heap} {L L₀ : Addr} {outer : List Env} {m m₀ : Str → Option Value} {s : Shared} {bm : Addr} {ob : Obj} {sa : Addr} {sv : List Value} {E : Env} {Q R' : Value → Shared → Prop}
    {led : List (Addr × Obj)} {a b d : Addr × Obj} {oc : Obj} {vc : Option Value} {sc : Scope} {cl : List (Str × Addr)} {p1 p2 p3 p4 p5 p6 p7 p8 p9 p10 p11 : Pos} {cc na : Int} {tc ta : Tok} {ml lc : Addr} {o : Obj}
    (B : Below A₀ base outer g) (F₀ : Fr h₀ L₀ g m₀) (F : Fr g L s.heap m) (N : News g L s.heap ((lc, oc) :: a :: b :: d :: led)) (X : (hd.heap_39 w.params).In g) (T : TopRead p loose mg mb g) (M : BMod base mainGlobals mg' bm ob) (hold : h₀.IsList sa sv.toArray) (hbare : AllBare s.gens)
    (hA : A.frames = some (E :: outer)) (hf : E.frame = some L) (hke : E.scope.kind = .function) (hh : A.handled = none) (hdp : A.depth + 10 < recursionLimit) (hun : A.units + 200 < cLine) (hl : E.locals = L) (hg : E.globals = mainGlobals) (hb : E.builtins = builtinsNs) (hce : E.cells = [(Str.ofString "self", lc)]) (hcd : oc.data = .cell vc)
    (hclos : closureFor sc E = pure cl) (hsc : sc.kind = .function) (hsn : sc.names = [(Str.ofString ".0", .local), (Str.ofString "i", .local), (Str.ofString "c", .local)])
    (k1 : E.kindOf (Str.ofString "modulus_coeffs") = some .local) (k3 : E.kindOf (Str.ofString "enumerate") = some .globalImplicit)
    (na1 : a.2.cls ≠ .type "tuple") (na2 : b.2.cls ≠ .type "tuple") (na3 : d.2.cls ≠ .type "tuple") (hml : (ml, o) ∈ led) (ho : (∃ k, o = listOf #[.int cc tc, .int na ta] k) ∨ o = tupO #[.int cc tc, .int na ta]) (hm : m (Str.ofString "modulus_coeffs") = some (.ref ml))
    (ret : ∀ news2 D ys h' tk', Fr g L h' m → News g L h' ((lc, oc) :: a :: b :: d :: news2) → (∀ p ∈ led, p ∈ news2) → (D, lst ys) ∈ news2 → (∀ p ∈ led, p.1 ≠ D) → PairsIn news2 (mcI cc na) ys → (∀ k, (∀ p ∈ led, p.1 ≠ k) → (k = lc ∨ k = a.1 ∨ k = b.1 ∨ k = d.1) → ∀ p ∈ news2, p.1 ≠ k) → Q (.ref D) ⟨h', s.gens, s.drawn, tk', s.os⟩) :
    wpAny (model prog w) A (eval (mcE p1 p2 p3 p4 p5 p6 p7 p8 p9 p10 p11 sc) E) Q R' s := by
  let S : Sx := ⟨prog, w, hd.heap_39 w.params, p, loose, mg, mb, mg', bm, ob, [], sa, sv⟩
  let c : Cx := ⟨A, A₀, base, g, outer, E, L, 0, true, (lc, oc) :: a :: b :: d :: led, s.os, s.gens, s.drawn, true, m⟩
  have O : Ok S c 10 := ⟨B, X, T, M, hA, hf, hke, hh, hdp, hun, hl, hg, hb, by show (E.cells.map (·.2)).Nodup; rw [hce]; simp, (let ⟨o, e, h⟩ := hold; ⟨o, F₀.keep _ _ e, h⟩)⟩
  have lkm : E.cells.lookup (Str.ofString "modulus_coeffs") = none := by rw [hce]; rfl
  have mem : (ml, o) ∈ (lc, oc) :: a :: b :: d :: led := .tail _ (.tail _ (.tail _ (.tail _ hml)))
  refine wpAny_mono (Q := Q) (E := fun _ _ => False) ?_ (fun _ _ h => h) (fun _ _ h => h.elim)
  have fin : ∀ (al : List Addr) D ys nw h' tk', Fr g L h' m → News g L h' ((D, lst ys) :: (nw ++ ((lc, oc) :: a :: b :: d :: led))) → (∀ b' ∈ (lc, oc) :: a :: b :: d :: led, @LT.lt Nat _ b'.1 D) → (∀ b' ∈ (lc, oc) :: a :: b :: d :: led, ∀ q ∈ nw, @LT.lt Nat _ b'.1 q.1) → PairsIn (nw ++ ((lc, oc) :: a :: b :: d :: led)) (mcI cc na) ys → Q (.ref D) ⟨h', s.gens, s.drawn, tk', s.os⟩ := fun al D ys nw h' tk' F' N' lo hi hp => by
    have hne : ∀ p ∈ nw ++ ((lc, oc) :: a :: b :: d :: led), p.2.cls = .type "tuple" → p.2.data ≠ .cell vc → p ∈ (D, lst ys) :: (nw ++ led) := fun p hp e1 e2 => by
      rcases List.mem_append.mp hp with hp | hp
      · exact .tail _ (List.mem_append_left _ hp)
      rcases List.mem_cons.mp hp with rfl | hp
      · exact absurd hcd e2
      rcases List.mem_cons.mp hp with rfl | hp
      · exact absurd e1 na1
      rcases List.mem_cons.mp hp with rfl | hp
      · exact absurd e1 na2
      rcases List.mem_cons.mp hp with rfl | hp
      · exact absurd e1 na3
      · exact .tail _ (List.mem_append_right _ hp)
    refine ret ((D, lst ys) :: (nw ++ led)) D ys h' tk' F' (fun p hp => N' p ?_) (fun p hp => .tail _ (List.mem_append_right _ hp)) (.head _) (fun p hp => Nat.ne_of_lt (lo p (.tail _ (.tail _ (.tail _ (.tail _ hp)))))) (hp.monoT fun p hp _ e => hne p hp (by rw [e]) (by rw [e]; exact fun h => nomatch h)) (fun k hk hk' p hp => ?_)
    · rcases List.mem_cons.mp hp with rfl | hp
      · exact .tail _ (List.mem_append_right _ (.head _))
      rcases List.mem_cons.mp hp with rfl | hp
      · exact .tail _ (List.mem_append_right _ (.tail _ (.head _)))
      rcases List.mem_cons.mp hp with rfl | hp
      · exact .tail _ (List.mem_append_right _ (.tail _ (.tail _ (.head _))))
      rcases List.mem_cons.mp hp with rfl | hp
      · exact .tail _ (List.mem_append_right _ (.tail _ (.tail _ (.tail _ (.head _)))))
      rcases List.mem_cons.mp hp with rfl | hp
      · exact .head _
      rcases List.mem_append.mp hp with hp | hp
      · exact .tail _ (List.mem_append_left _ hp)
      · exact .tail _ (List.mem_append_right _ (.tail _ (.tail _ (.tail _ (.tail _ hp)))))
    · obtain ⟨b', hb', e⟩ : ∃ b' ∈ (lc, oc) :: a :: b :: d :: led, b'.1 = k := by
        rcases hk' with rfl | rfl | rfl | rfl
        · exact ⟨_, .head _, rfl⟩
        · exact ⟨_, .tail _ (.head _), rfl⟩
        · exact ⟨_, .tail _ (.tail _ (.head _)), rfl⟩
        · exact ⟨_, .tail _ (.tail _ (.tail _ (.head _))), rfl⟩
      rcases List.mem_cons.mp hp with rfl | hp
      · rw [← e]; exact Nat.ne_of_gt (lo _ hb')
      rcases List.mem_append.mp hp with hp | hp
      · rw [← e]; exact Nat.ne_of_gt (hi _ hb' _ hp)
      · exact hk p hp
  have hloc : ∀ (W : Wd) (v : V), VR W v (.ref ml) → ∀ x v', List.lookup x [(Str.ofString "modulus_coeffs", v)] = some v' → ∃ u, VR W v' u ∧ LocAt c W m x u := fun W v hv x v' e => by
    rw [List.lookup_cons] at e
    by_cases hx : (x == Str.ofString "modulus_coeffs") = true
    · rw [hx] at e
      cases e
      have hx' : x = Str.ofString "modulus_coeffs" := beq_iff_eq.mp hx
      subst hx'
      refine ⟨_, hv, ?_⟩
      show match E.cells.lookup (Str.ofString "modulus_coeffs") with
        | none => m _ = some _
        | some a => _
      rw [lkm]
      exact hm
    · rw [Bool.eq_false_iff.mpr hx] at e
      cases e
  have hcel : ∀ x ∈ E.cells, ∃ o v, (x.2, o) ∈ (lc, oc) :: a :: b :: d :: led ∧ o.data = .cell v := fun x hx => by
    rw [hce] at hx
    cases List.mem_singleton.mp hx
    exact ⟨_, _, .head _, hcd⟩
  rcases ho with ⟨k, rfl⟩ | rfl
  · refine mc_S (S := S) (c := c) (n := 10) (W := ⟨(lc, oc) :: a :: b :: d :: led, [ml]⟩) (ls := [[.int cc, .int na]]) rfl O rfl rfl rfl hclos hsc hsn k1 lkm k3 rfl (.inl ⟨rfl, rfl⟩) ⟨F, N, hloc _ _ (.lst rfl), hcel, (fun h => nomatch h), (fun x v e => nomatch e), (fun j vs e => ?_), rfl, by simp, N, (fun h => nomatch h), (fun h => nomatch h), (fun _ => ⟨rfl, rfl⟩), (fun _ => rfl), (fun h => nomatch h), (fun h => nomatch h), rfl⟩ (fin [ml])
    cases j with
    | zero => cases e; exact ⟨ml, [_, _], k, rfl, mem, .cons .int (.cons .int .nil)⟩
    | succ j => simp at e
  · exact mc_S (S := S) (c := c) (n := 10) (W := ⟨(lc, oc) :: a :: b :: d :: led, []⟩) (ls := []) rfl O rfl rfl rfl hclos hsc hsn k1 lkm k3 rfl (.inr rfl) ⟨F, N, hloc _ _ (.tup (xs := [_, _]) mem (.cons .int (.cons .int .nil))), hcel, (fun h => nomatch h), (fun x v e => nomatch e), (fun j vs e => by simp at e), rfl, by simp, N, (fun h => nomatch h), (fun h => nomatch h), (fun _ => ⟨rfl, rfl⟩), (fun _ => rfl), (fun h => nomatch h), (fun h => nomatch h), rfl⟩ (fin [])
end Mine

end

section
open PySem PySem.W PyProof.Rows PySem.Calls
set_option maxRecDepth 100000
set_option Elab.async false
namespace Mine
local macro_rules | `(tactic| k_room) => `(tactic| first | ((try simp only [depth_under_make, depth_under_kw, depth_in1, depth_deeper, depth_caller]); omega) | ktr_room)
local macro_rules | `(tactic| k_units) => `(tactic| first | ((try simp only [units_under_make, units_in1, units_deeper, Around.mark_units, units_caller]); omega) | ((have hcL9 := cLine_is); (try simp only [units_under_make, units_in1, units_deeper, Around.mark_units, units_caller]); omega) | ktr_units)
local macro_rules | `(tactic| k_enter) => `(tactic| first
  | (refine' Mine.enterR ?k1 ?k2 ?k3 ?k4 ?k5 ?kA ?kF ?kK ?k6 ?k7 ?k8 ?k9 ?kB ?_ ?c2 ?c3 ?c4 ?c5; (case kA => exact rfl); (case kF => first | exact rfl | assumption); (case kK => first | exact rfl | assumption); (case k1 => k_asm); (case k2 => k_asm); (case k3 => k_asm); (case k4 => k_asm); (case k5 => k_asm); (case k6 => k_is); (case k7 => k_is); (case k8 => k_room); (case k9 => first | exact BindsTo.of_eq rfl | exact binds_K (by k_in) rfl (by k_is) rfl rfl rfl | fail "k_enter: no rule for these arguments"); (case c5 => decide); (case kB => exact locs rfl); (case c2 => exact rfl); (case c3 => exact rfl); (case c4 => exact rfl); k_whole; intro g' L' h' tk' FG' F' N' B' X' T' l1; (try k_lt l1); (try dsimp only); (try k_lift B'); (try k_fold))
  | (refine' Mine.enterRC ?k1 ?k2 ?k3 ?k4 ?k5 ?kA ?kF ?kK ?k6 ?k7 ?k8 ?k9 ?kB ?kD ?_ ?c2 ?c3 ?c4; (case kA => exact rfl); (case kF => first | exact rfl | assumption); (case kK => first | exact rfl | assumption); (case k1 => k_asm); (case k2 => k_asm); (case k3 => k_asm); (case k4 => k_asm); (case k5 => k_asm); (case k6 => k_is); (case k7 => k_is); (case k8 => k_room); (case k9 => first | exact BindsTo.of_eq rfl | exact binds_K (by k_in) rfl (by k_is) rfl rfl rfl | fail "k_enter: no rule for these arguments"); (case kB => exact rfl); (case kD => decide +kernel); (case c2 => exact rfl); (case c3 => exact rfl); (case c4 => exact rfl); k_whole; intro g' L' h' tk' cells' FG' F' N' Y' B' X' T' l1; (try k_lt l1); k_cells Y'; (try simp only [List.cons_append, List.nil_append] at N'); (try dsimp only); (try k_lift B'); (try k_fold)))
local macro_rules | `(tactic| walk_at "binaryOp Div ref ref") => `(tactic| (k_here; (with_reducible show wpAny _ _ (binaryOp _ (Value.ref _) (Value.ref _)) _ _ _); k_dflt (refine' binop_K ?k1 ?k2 ?k3 ?k4 ?k5 ?k6 ?k7 ?_; (case k1 => k_asm); (case k2 => k_asm); (case k3 => k_inst); (case k4 => k_typeOf); (case k5 => k_is); (case k6 => k_is); (case k7 => k_is); k_whole)))
local macro_rules | `(tactic| walk_at "call type:int") => `(tactic| (k_here; (with_reducible show wpAny _ _ (call (Value.type "int") [Value.ref _]) _ _ _); k_dflt (refine' Mine.int_K ?F ?X ?I ?hS ?hF ?_; (case F => k_asm); (case X => k_asm); (case I => k_inst); (case hS => k_is); (case hF => k_is); k_whole)))
local macro_rules | `(tactic| walk_at "binaryOp Sub int ref") => `(tactic| (k_here; (with_reducible show wpAny _ _ (binaryOp Operator.Sub (Value.int _ _) (Value.ref _)) _ _ _); k_dflt (refine' Mine.bin_IR ?F ?X ?I ?hC ?hS ?hR ?hF ?hU ?hfl ?sl ?hd ?_; (case F => k_asm); (case X => k_asm); (case I => k_inst); (case hS => k_is); (case hR => k_is); (case hF => k_is); (case hC => k_is); (case hU => k_is); (case hfl => exact F.fills_int_sub); (case sl => exact F.slot_int_sub); (case hd => exact Mine.decl_sub (by k_inst) rfl); k_whole)))
local macro_rules | `(tactic| walk_at "binaryOp Div int ref") => `(tactic| (k_here; (with_reducible show wpAny _ _ (binaryOp Operator.Div (Value.int _ _) (Value.ref _)) _ _ _); k_dflt (refine' Mine.bin_IR ?F ?X ?I ?hC ?hS ?hR ?hF ?hU ?hfl ?sl ?hd ?_; (case F => k_asm); (case X => k_asm); (case I => k_inst); (case hS => k_is); (case hR => k_is); (case hF => k_is); (case hC => k_is); (case hU => k_is); (case hfl => exact F.fills_int_truediv); (case sl => exact F.slot_int_truediv); (case hd => exact Mine.decl_div (by k_inst) rfl); k_whole)))
local macro_rules | `(tactic| k_mem) => `(tactic| first | exact List.Mem.head _ | (refine Mine.mem_tl ?_; k_mem))
local macro_rules | `(tactic| walk_at "call type:tuple") => `(tactic| (k_here; (with_reducible show wpAny _ _ (call (Value.type "tuple") [Value.ref _]) _ _ _); k_dflt (refine' Mine.tup_same ?N ?h ?_; (case N => k_asm); (case h => k_mem); k_whole)))
local macro_rules | `(tactic| walk_at "subscriptTail") => `(tactic| (k_here; (with_reducible show wpAny _ _ (subscriptTail _ _ (Value.ref _) (Value.int _ _)) _ _ _); k_dflt (refine' item_tupleT ?t ?a ?b ?c ?d ?_; (case t => exact News.isTup (by k_asm) (by k_mem)); (case a => decide); (case b => decide); (case c => rfl); (case d => rfl); k_whole)))
local macro_rules | `(tactic| walk_at "subscriptTail Attribute") => `(tactic| (k_here; (with_reducible show wpAny _ _ (subscriptTail _ _ (Value.ref _) (Value.int _ _)) _ _ _); k_dflt (refine' item_tupleT ?t ?a ?b ?c ?d ?_; (case t => exact News.isTup (by k_asm) (by k_mem)); (case a => decide); (case b => decide); (case c => rfl); (case d => rfl); k_whole)))
local macro_rules | `(tactic| walk_at "subscriptTail Name") => `(tactic| (k_here; (with_reducible show wpAny _ _ (subscriptTail _ _ (Value.ref _) (Value.int _ _)) _ _ _); k_dflt (refine' item_tupleT ?t ?a ?b ?c ?d ?_; (case t => exact News.isTup (by k_asm) (by k_mem)); (case a => decide); (case b => decide); (case c => rfl); (case d => rfl); k_whole)))
local macro_rules | `(tactic| walk_at "getItem ref int") => `(tactic| (k_here; (with_reducible show wpAny _ _ (getItem (Value.ref _) (Value.int _ _)) _ _ _); k_dflt (refine' Mine.lget ?N ?m ?a ?b ?x ?_; (case N => k_asm); (case m => k_mem); (case a => decide); (case b => decide); (case x => rfl); k_whole)))
local macro_rules | `(tactic| walk_at "setItem ref int") => `(tactic| (k_here; (with_reducible show wpAny _ _ (setItem (Value.ref _) (Value.int _ _) _) _ _ _); k_dflt (refine' ki_set ?F ?N ?a ?b ?e ?U ?_; (case F => k_asm); (case N => k_asm); (case U => k_upd); (case a => decide); (case b => decide); (case e => rfl)); intro h' F' N'; (try dsimp only [List.nil_append, List.cons_append] at N'); (try k_sweep)))
local macro_rules | `(tactic| walk_at "RangeRest") => `(tactic| first | (with_reducible refine' RangeRest.succ ?_; intro t' h' tk' F' N') | (with_reducible refine' RangeRest.zero ?_; intro h' tk' F' N'))
local macro_rules | `(tactic| walk_at "eval Name") => `(tactic| (k_here; k_dflt (first
  | (refine' nameX_L ?F ?v ?_ ?a ?b; (case F => k_asm); (case a => rfl); (case b => rfl); (case v => rfl); k_whole)
  | (refine' nameX_C ?N ?c ?m ?d ?_ ?a ?b; (case a => rfl); (case b => rfl); (case N => k_asm); (case c => rfl); (case m => k_mem); (case d => k_asm); k_whole)
  | (refine' nameX_K ?F ?X ?T ?e ?_ ?a ?b; (case F => k_asm); (case X => k_asm); (case T => k_asm); (case a => rfl); (case b => rfl); (case e => k_is); k_whole)
  | (refine' nameX_B ?F ?X ?T ?e ?v ?n ?_ ?a ?b; (case F => k_asm); (case X => k_asm); (case T => k_asm); (case a => rfl); (case b => rfl); (case e => k_is); (case v => boot_fast); (case n => decide); k_whole))))
local macro_rules | `(tactic| k_all) => `(tactic| with_reducible assumption)
local macro_rules | `(tactic| walk_at "call builtin:len") => `(tactic| (k_here; (with_reducible show wpAny _ _ (call (Value.builtin "len") [Value.ref _]) _ _ _); k_dflt (refine' kst_len ?N ?m ?e ?f ?_; (case N => k_asm); (case m => k_mem); (case e => rfl); (case f => decide); k_whole)))

open PyProof.Rows.LCg

local macro_rules | `(tactic| walk_at "eval Name") => `(tactic| (k_here; (with_reducible show wpAny _ _ (eval (Expr.Name _ _) (genEnv _ _ _ _ _ _)) _ _ _); k_dflt (first
  | (refine' Mine.gen_loc ?F ?v ?_ ?a ?b ?c; (case F => k_asm); (case v => assumption); (case a => rfl); (case b => rfl); (case c => decide); k_whole)
  | (refine' Mine.gen_free ?N ?c ?m ?d ?_ ?a ?b ?e ?f; (case N => k_asm); (case a => rfl); (case b => rfl); (case c => rfl); (case m => assumption); (case d => assumption); (case e => decide); (case f => decide); k_whole))))

set_option hygiene false in
local macro_rules | `(tactic| walk_at "eval ListComp") => `(tactic| (k_here; (with_reducible rename Below _ _ _ _ => bE'); (with_reducible show wpAny _ _ (eval (Expr.ListComp _ _ _ _) _) _ _ _); k_dflt ((with_reducible refine' Mine.mc_K (ml := ml) (cc := c) (na := na) (tc := tc) (ta := ta) ?B ?F0 ?F ?N ?X ?T ?M ?hold ?hbare ?hA ?hf ?hke ?hh ?hdp ?hun ?hl ?hg ?hb ?hce ?hcd ?hclos ?hsc ?hsn ?k1 ?k3 ?na1 ?na2 ?na3 ?hml ?ho ?hm ?_); (case B => exact bE'); (case F0 => k_asm); (case F => k_asm); (case N => k_asm); (case X => k_asm); (case T => k_asm); (case M => assumption); (case hold => exact hold); (case hbare => exact hbare); (case hA => exact rfl); (case hf => exact rfl); (case hke => exact rfl); (case hh => exact rfl); (case hdp => k_room); (case hun => k_units); (case hl => exact rfl); (case hg => exact rfl); (case hb => exact rfl); (case hce => exact rfl); (case hcd => assumption); (case hclos => exact rfl); (case hsc => exact rfl); (case hsn => exact rfl); (case k1 => exact rfl); (case k3 => exact rfl); (case na1 => exact Mine.inst_nt); (case na2 => exact Mine.dict_nt); (case na3 => exact Mine.tab_nt); (case hml => exact hml); (case ho => first | exact .inl ⟨_, rfl⟩ | exact .inr rfl); (case hm => exact rfl)); intro news2' D' ys' h' tk' F' N' hsub2' hD' hDn' hpairs' hne2'; (have hne3' := hne2' 49 hP (.inr (.inr (.inr rfl)))); (have hne4' := hne2' _ (by k_all) (.inr (.inr (.inl rfl)))); (have hcl2' := hsub2' _ hcl); (have hml2' := hsub2' _ hml); (try k_sweep)))

set_option hygiene false in
local macro_rules | `(tactic| walk_at "eval GeneratorExp") => `(tactic| (k_here; (with_reducible rename News _ _ _ _ => nE'); (with_reducible rename Frag.In _ _ => xE'); (with_reducible rename TopRead _ _ _ _ _ => tE'); (have nE2' := Mine.pull3 nE'); k_dflt (refine' Mine.genEval (Φ := Mine.PhiI u v q) ?B ?F nE2' ?hPn ?hps ?hlim ?M ?hA ?hf ?hke ?hh ?hroom ?hc ?hco2 ?hcls ?hd ?h11 ?h18 ?h7 ?h9 ?h10 ?hco ?hclos ?hcell ?h0 ?hx ?hkind ?hiter ?S ?hlP ?hs ?helt ?_; (case B => k_asm); (case F => k_asm); (case hlim => exact TopRead.nolimit (by k_asm)); (case M => assumption); (case hA => exact rfl); (case hf => exact rfl); (case hke => exact rfl); (case hh => exact rfl); (case hroom => k_room); (case hc => exact rfl); (case hco2 => exact xE' _ _ (by k_is)); (case hcls => exact rfl); (case hd => exact rfl); (case h11 => exact rfl); (case h18 => exact rfl); (case h7 => exact rfl); (case h9 => exact rfl); (case h10 => exact rfl); (case hco => exact rfl); (case hclos => exact rfl); (case hcell => decide); (case h0 => exact rfl); (case hx => exact rfl); (case hkind => exact rfl); (case hiter => (intro Q9 h9; walk1; exact h9)); (case S => first | exact Mine.Src.list ⟨_, (News.get (by k_asm) (by k_mem)), rfl, _, rfl⟩ | exact Mine.Src.tuple ⟨_, (News.get (by k_asm) (by k_mem)), rfl, _, rfl⟩); (case hlP => assumption); (case hps => assumption); (case hs => exact fun _ => rfl); (case hPn => k_all); (case helt => (intro dp' un' gd' c' cG' gB ledU u' m₂ i' v' E' e1 e2 hi B1' st1 F1' hm1 N1' hsub; (simp only [depth_under_make, depth_under_kw, depth_in1, depth_deeper, depth_caller] at e1); (simp only [units_under_make, units_in1, units_deeper, Around.mark_units, units_caller] at e2); (have X1' := Frag.In.keeps xE' st1); (have T1' := TopRead.keeps tE' st1); (have c1' := hsub _ (List.Mem.head _)); (have c2' := hsub _ (Mine.mem_tl (List.Mem.head _))); (have c3' := hsub _ (Mine.mem_tl (Mine.mem_tl (List.Mem.head _)))); (refine Mine.eltStart ?_); (obtain ⟨nC, tC, rfl, hC⟩ := Mine.int_at hi); k_steps; (all_goals exact Mine.eltI (by k_asm) (by k_asm) rfl hC)))); intro aG gN' cG iG nG psG s₅ rG; (have F5' := rG.fr); (have N5' := rG.nw); (try k_sweep); (try dsimp only); (try k_fold)))

local macro_rules | `(tactic| walk_at "call type:tuple") => `(tactic| (k_here; (with_reducible show wpAny _ _ (call (Value.type "tuple") [Value.ref _]) _ _ _); (with_reducible rename Mine.GenReady _ _ _ _ _ _ _ _ _ _ _ _ _ _ _ _ _ _ _ => rG'); k_dflt (refine' Mine.tupI rG' ?hh ?hroom ?_; (case hh => exact rfl); (case hroom => k_room); k_whole); clear rG'; intro T' t0' t1' s' F' N' gB' gO' lo0' tB'; (try k_lt lo0'); (try k_sweep); (try dsimp only); (try k_fold)))

theorem inst_nt {C d : Addr} : (instObj C d).cls ≠ .type "tuple" := fun h => nomatch h
theorem dict_nt {es : List DictEntry} {n : Nat} : (dictOf es n).cls ≠ .type "tuple" := fun h => absurd (Value.type.inj h) (by decide)
theorem tab_nt {ps : Array Value} : (tabO ps).cls ≠ .type "tuple" := fun h => nomatch h
theorem int_at {u v : Int} {tu tv : Tok} {y : Value} {i : Nat} (hi : (#[.int u tu, .int v tv] : Array Value)[i]? = some y) : ∃ n t, y = .int n t ∧ n = nth2 u v i := by
  rcases two_items hi with ⟨rfl, rfl⟩ | ⟨rfl, rfl⟩
  · exact ⟨_, _, rfl, rfl⟩
  · exact ⟨_, _, rfl, rfl⟩
theorem litem {prog : Program} {w : World} {A : Around} {E Q : Value → Shared → Prop} {s : Shared} {value slice : Expr} {h₀ : Heap} {L a : Addr} {news : List (Addr × Obj)} {l : List Value} {n : Nat} {i : Int} {t : Tok} {u : Value} (N : News h₀ L s.heap news) (hm : (a, listOf l.toArray n) ∈ news) (h0 : 0 ≤ i) (h1 : i < 2 ^ 63) (hu : l[i.toNat]? = some u) (hs : ∀ a t, subscripted slice false (.ref a) (.int i t) = operate [.ref a, .int i t] (getItem (.ref a) (.int i t))) (h : Q u s) :
    wpAny (model prog w) A (subscriptTail value slice (.ref a) (.int i t)) Q E s := by
  have hl : s.heap.IsList a l.toArray := ⟨_, (N _ hm).1, rfl, _, rfl⟩
  exact tail_any hl.typeIs slot_list_getitem.lookup (getItem_listL hl h0 h1 hu h) (hs _ _)

def OpIn (C : Addr) (news₀ led : List (Addr × Obj)) (x : Value) (u v c na q : Int) : Prop :=
  ∃ a d T M D ys k1 k2 k3 k4 k5 t1 t2 t3 t4 t5 t6 t7 t8 t9 t10 t11, x = .ref a ∧ (a, instObj C d) ∈ led ∧
    (d, dictOf [⟨k1, .str "field_modulus" t1, .int q t2⟩, ⟨k2, .str "mc_tuples" t3, .ref D⟩, ⟨k3, .str "coeffs" t4, .ref T⟩, ⟨k4, .str "modulus_coeffs" t5, .ref M⟩, ⟨k5, .str "degree" t6, .int 2 t7⟩] 5) ∈ led ∧
    (T, tupO #[.int u t8, .int v t9]) ∈ led ∧ (M, tupO #[.int c t10, .int na t11]) ∈ led ∧ (D, lst ys) ∈ led ∧ PairsIn led (mcI c na) ys ∧ ∀ p ∈ news₀, p.1 ≠ D
abbrev OpR (C : Addr) (h₀ : Heap) (L : Addr) (m : Str → Option Value) (news : List (Addr × Obj)) (s : Shared) (Q : Value → Shared → Prop) (u v c na q : Int) : Prop :=
  ∀ x news' ps' s', Fr h₀ L s'.heap m → News h₀ L s'.heap ((49, tabO ps') :: news') → TbOk ⟨40, 32, 40, 80⟩ ps' → (∀ p ∈ news', p.1 ≠ 49) → (∀ p ∈ news, p ∈ news') → (AllBare s.gens → AllBare s'.gens) → s'.os = s.os → OpIn C news news' (.ref x) u v c na q → Q (.ref x) s'
theorem op_of {C : Addr} {news₀ led : List (Addr × Obj)} {x d T M D : Addr} {ys : List Value} {u v c na q : Int} {k1 k2 k3 k4 k5 : Int} {t1 t2 t3 t4 t5 t6 t7 t8 t9 t10 t11 : Tok}
    (hx : (x, instObj C d) ∈ led) (hd : (d, dictOf [⟨k1, .str "field_modulus" t1, .int q t2⟩, ⟨k2, .str "mc_tuples" t3, .ref D⟩, ⟨k3, .str "coeffs" t4, .ref T⟩, ⟨k4, .str "modulus_coeffs" t5, .ref M⟩, ⟨k5, .str "degree" t6, .int 2 t7⟩] 5) ∈ led)
    (hT : (T, tupO #[.int u t8, .int v t9]) ∈ led) (hM : (M, tupO #[.int c t10, .int na t11]) ∈ led) (hD : (D, lst ys) ∈ led) (hp : PairsIn led (mcI c na) ys) (hn : ∀ p ∈ news₀, p.1 ≠ D) : OpIn C news₀ led (.ref x) u v c na q :=
  ⟨x, d, T, M, D, ys, k1, k2, k3, k4, k5, t1, t2, t3, t4, t5, t6, t7, t8, t9, t10, t11, rfl, hx, hd, hT, hM, hD, hp, hn⟩

set_option maxHeartbeats 2000000 in
theorem op_new_422_lt {ps : Array Value} {bm : Addr} {ob : Obj} {mg' : Str → Option Value} {prog : Program} {w : World} {p : Program} {loose : List Str} {mg mb : Str → Option Value}
    {dp un : Nat} {gd : Option (List Code)} {env : Env} {outer : List Env} {A₀ : Around} {base h₀ : Heap} {L : Addr} {m : Str → Option Value} {news : List (Addr × Obj)} {s : Shared}
    {Q E : Value → Shared → Prop}
    (B : Below A₀ base outer h₀) (F : Fr h₀ L s.heap m) (X : (hd.heap_39 w.params).In h₀) (N : News h₀ L s.heap ((49, tabO ps) :: news)) (T : TopRead p loose mg mb h₀) (hf : env.frame = some L) (hke : env.scope.kind = .function)
    (hdp : dp + 60 < recursionLimit) (hun : un + 600 < cLine)
    (M : BMod base mainGlobals mg' bm ob) {q c na : Int} {tq tc ta tu tv tcl : Tok} {cl ml : Addr} {k1 : Nat} {u v : Int} {sa : Addr} {sv : List Value} (hold : h₀.IsList sa sv.toArray) (hbare : AllBare s.gens) (hP : ∀ p ∈ news, p.1 ≠ 49) (hps : TbOk ⟨40, 32, 40, 80⟩ ps) (hq : 0 < q) (hq2 : q < 1000) (hcl : (cl, listOf #[.int u tu, .int v tv] k1) ∈ news) (hml : (ml, tupO #[.int c tc, .int na ta]) ∈ news)
    (ret : OpR 161 h₀ L m news s Q (Int.fmod u q) (Int.fmod v q) c na q) :
    wpAny (model prog w) { handled := none, depth := dp, frames := some (env :: outer), guards := gd, units := un } (call (.ref 161) [.ref cl, .ref ml, .int q tq]) Q E s := by
  have hclP : cl ≠ 49 := hP _ hcl
  k_steps
  (refine' Mine.litem ?N ?m ?a ?b ?c ?hs ?_; (case N => k_asm); (case m => k_mem); (case a => decide); (case b => decide); (case c => exact rfl); (case hs => (intro _ _; exact rfl)); k_whole)
  k_steps
  all_goals (refine' ret _ _ _ _ ?F ?N ?tb ?np ?sb ?g ?o ?fq; (case F => k_asm); (case N => (first | exact Mine.pl0 49 (by k_asm) | exact Mine.pl1 49 (by k_asm) | exact Mine.pl2 49 (by k_asm) | exact Mine.pl3 49 (by k_asm) | exact Mine.pl4 49 (by k_asm) | exact Mine.pl5 49 (by k_asm) | exact Mine.pl6 49 (by k_asm) | exact Mine.pl7 49 (by k_asm) | exact Mine.pl8 49 (by k_asm) | exact Mine.pl9 49 (by k_asm) | exact Mine.pl10 49 (by k_asm) | exact Mine.pl11 49 (by k_asm) | exact Mine.pl12 49 (by k_asm) | exact Mine.pl13 49 (by k_asm) | exact Mine.pl14 49 (by k_asm) | exact Mine.pl15 49 (by k_asm) | exact Mine.pl16 49 (by k_asm))); (case tb => assumption); (case g => assumption); (case o => assumption); (case np => k_all); (case sb => (intro p hp; (repeat (first | exact hsub2' p hp | exact hp | refine Mine.mem_tl ?_)))); (case fq => exact Mine.op_of (by k_mem) (by k_mem) (by k_mem) (by k_mem) (by k_mem) (hpairs'.mono (by (intro p hp; repeat (first | exact hp | refine Mine.mem_tl ?_)))) (by assumption)))


set_option maxHeartbeats 2000000 in
theorem op_new_451_lt {ps : Array Value} {bm : Addr} {ob : Obj} {mg' : Str → Option Value} {prog : Program} {w : World} {p : Program} {loose : List Str} {mg mb : Str → Option Value}
    {dp un : Nat} {gd : Option (List Code)} {env : Env} {outer : List Env} {A₀ : Around} {base h₀ : Heap} {L : Addr} {m : Str → Option Value} {news : List (Addr × Obj)} {s : Shared}
    {Q E : Value → Shared → Prop}
    (B : Below A₀ base outer h₀) (F : Fr h₀ L s.heap m) (X : (hd.heap_39 w.params).In h₀) (N : News h₀ L s.heap ((49, tabO ps) :: news)) (T : TopRead p loose mg mb h₀) (hf : env.frame = some L) (hke : env.scope.kind = .function)
    (hdp : dp + 60 < recursionLimit) (hun : un + 600 < cLine)
    (M : BMod base mainGlobals mg' bm ob) {q c na : Int} {tq tc ta tu tv tcl : Tok} {cl ml : Addr} {k1 : Nat} {u v : Int} {sa : Addr} {sv : List Value} (hold : h₀.IsList sa sv.toArray) (hbare : AllBare s.gens) (hP : ∀ p ∈ news, p.1 ≠ 49) (hps : TbOk ⟨40, 32, 40, 80⟩ ps) (hq : 0 < q) (hq2 : q < 1000) (hcl : (cl, listOf #[.int u tu, .int v tv] k1) ∈ news) (hml : (ml, tupO #[.int c tc, .int na ta]) ∈ news)
    (ret : OpR 190 h₀ L m news s Q (Int.fmod u q) (Int.fmod v q) c na q) :
    wpAny (model prog w) { handled := none, depth := dp, frames := some (env :: outer), guards := gd, units := un } (call (.ref 190) [.ref cl, .ref ml, .int q tq]) Q E s := by
  have hclP : cl ≠ 49 := hP _ hcl
  k_steps
  (refine' Mine.litem ?N ?m ?a ?b ?c ?hs ?_; (case N => k_asm); (case m => k_mem); (case a => decide); (case b => decide); (case c => exact rfl); (case hs => (intro _ _; exact rfl)); k_whole)
  k_steps
  all_goals (refine' ret _ _ _ _ ?F ?N ?tb ?np ?sb ?g ?o ?fq; (case F => k_asm); (case N => (first | exact Mine.pl0 49 (by k_asm) | exact Mine.pl1 49 (by k_asm) | exact Mine.pl2 49 (by k_asm) | exact Mine.pl3 49 (by k_asm) | exact Mine.pl4 49 (by k_asm) | exact Mine.pl5 49 (by k_asm) | exact Mine.pl6 49 (by k_asm) | exact Mine.pl7 49 (by k_asm) | exact Mine.pl8 49 (by k_asm) | exact Mine.pl9 49 (by k_asm) | exact Mine.pl10 49 (by k_asm) | exact Mine.pl11 49 (by k_asm) | exact Mine.pl12 49 (by k_asm) | exact Mine.pl13 49 (by k_asm) | exact Mine.pl14 49 (by k_asm) | exact Mine.pl15 49 (by k_asm) | exact Mine.pl16 49 (by k_asm))); (case tb => assumption); (case g => assumption); (case o => assumption); (case np => k_all); (case sb => (intro p hp; (repeat (first | exact hsub2' p hp | exact hp | refine Mine.mem_tl ?_)))); (case fq => exact Mine.op_of (by k_mem) (by k_mem) (by k_mem) (by k_mem) (by k_mem) (hpairs'.mono (by (intro p hp; repeat (first | exact hp | refine Mine.mem_tl ?_)))) (by assumption)))


end Mine

end

section
set_option maxRecDepth 100000
set_option autoImplicit false
set_option linter.unusedVariables false
set_option Elab.async false
set_option maxHeartbeats 4000000
open PySem PySem.W PyProof.Rows PySem.Calls
namespace Mine
open PyProof.Rows.LCg

abbrev opV (C : Addr) (q cc na u v : Int) : V := .inst C [(Str.ofString "field_modulus", .int q), (Str.ofString "mc_tuples", .flst ((mcI cc na).map pairV)), (Str.ofString "coeffs", .tup [.int u, .int v]), (Str.ofString "modulus_coeffs", .tup [.int cc, .int na]), (Str.ofString "degree", .int 2)]
section
variable {S : Sx} {c : Cx} {env : Env} {σ : St} {n : Nat} {W : Wd} {m : Str → Option Value} {s : Shared}
theorem OpIn.vr {C : Addr} {news₀ : List (Addr × Obj)} {q u v cc na : Int} {x : Value} (h : OpIn C news₀ W.news x u v cc na q) (hal : ∀ a ∈ W.al, ∃ p ∈ news₀, p.1 = a) : VR W (opV C q cc na u v) x := by
  obtain ⟨a, d, T, M, D, ys, k1, k2, k3, k4, k5, t1, t2, t3, t4, t5, t6, t7, t8, t9, t10, t11, rfl, h1, h2, h3, h4, h5, h6, h7⟩ := h
  exact .inst h1 h2 (.cons .int (.cons (.flst h5 (fun hm => (let ⟨p, hp, e⟩ := hal D hm; h7 p hp e)) h6.vrs) (.cons (.tup (xs := [_, _]) h3 (.cons .int (.cons .int .nil))) (.cons (.tup (xs := [_, _]) h4 (.cons .int (.cons .int .nil))) (.cons .int .nil)))))
theorem opR_of {C : Addr} {ps : Array Value} {u v cc na q : Int} {Q : Value → Shared → Prop} (r : R S c σ W m s) (hfz : c.fz = false) (hfr : c.frz = []) (ht : (49, (⟨40, 32, 40, 80⟩ : Pos)) ∈ S.tabs) (hd : ∀ t ∈ S.tabs, t.1 = 49 → t.2 = (⟨40, 32, 40, 80⟩ : Pos)) (hp : (49, tabO ps) ∈ W.news)
    (k : ∀ x W' m' s', R S c σ W' m' s' → Gr c [] W W' → VR W' (opV C q cc na u v) x → Q x s') : OpR C c.h₀ c.L m (offT 49 W.news) s Q u v cc na q :=
  fun x news' ps' s' F' N' tb np sub hg hos hf => by
    obtain ⟨r', g'⟩ := r.turn hfz hfr ht hd hp F' N' tb sub hg hos
    refine k _ _ _ _ r' g' (OpIn.vr (news₀ := offT 49 W.news) ?_ ?_)
    · obtain ⟨a, d, T, M, D, ys, k1, k2, k3, k4, k5, t1, t2, t3, t4, t5, t6, t7, t8, t9, t10, t11, e, h1, h2, h3, h4, h5, h6, h7⟩ := hf
      exact ⟨a, d, T, M, D, ys, k1, k2, k3, k4, k5, t1, t2, t3, t4, t5, t6, t7, t8, t9, t10, t11, e, .tail _ h1, .tail _ h2, .tail _ h3, .tail _ h4, .tail _ h5, h6.mono fun p h => .tail _ h, h7⟩
    · intro a ha
      obtain ⟨j, hj⟩ := List.mem_iff_getElem?.mp ha
      have hlt : j < σ.ls.length := by
        rw [← r.len]
        have := List.getElem?_eq_some_iff.mp hj
        exact this.1
      obtain ⟨a', xs, n, e1, e2, e3⟩ := r.ls j _ (List.getElem?_eq_getElem hlt)
      have : a' = a := Option.some.inj (e1.symm.trans hj)
      subst this
      refine ⟨_, offT_mem e2 (fun e => ?_), rfl⟩
      have h1 := (r.N _ e2).1
      have e : a' = 49 := e
      subst e
      have h2 := (r.N _ hp).1
      have h3 := Option.some.inj (h1.symm.trans h2)
      exact absurd (congrArg Obj.cls h3) (fun h => nomatch h)
variable (hK : S.K = hd.heap_39 S.w.params) (hT : (49, (⟨40, 32, 40, 80⟩ : Pos)) ∈ S.tabs) (hD : ∀ t ∈ S.tabs, t.1 = 49 → t.2 = (⟨40, 32, 40, 80⟩ : Pos))
include hK hT hD
theorem call_op422_lt (O : Ok S c n) (hn : 60 ≤ n) (hfz : c.fz = false) (hfr : c.frz = []) {q cc na u v : Int} {k1 : Nat} {P : V → St → Prop} (hq : 0 < q) (hq2 : q < 1000) (h1 : σ.ls[k1]? = some [.int u, .int v]) 
    (h : P (opV 161 q cc na (Int.fmod u q) (Int.fmod v q)) σ) : CallS S c (.old (.ref 161)) [.lst k1, .tup [.int cc, .int na], .int q] σ P := fun W f xs hf hxs m s Q r k => by
  obtain ⟨dp, un, gd, eA, hdp, hun⟩ := O.lit
  cases hf
  cases hxs with
  | cons b1 z => cases z with
    | cons b2 z => cases z with
      | cons b3 z =>
        cases z; cases b3
        have X := hK ▸ O.X
        obtain ⟨x1, ys1, n1, rfl, d1, d2, d3⟩ := r.lstAt h1 b1
        obtain ⟨x2, ys2, rfl, e2, e3, _⟩ := b2.isTup r
        cases d3 with
        | cons p1 z => cases z with
          | cons p2 z =>
            cases z; cases p1; cases p2
            cases e3 with
            | cons p3 z => cases z with
              | cons p4 z =>
                cases z; cases p3; cases p4
                obtain ⟨ps, t1, t2⟩ := r.tabs hfz _ hT
                have ne : ∀ p ∈ W.news, tabB p.2 = false → p.1 ≠ 49 := fun p h hb e => by
                  have h1 := (r.N p h).1
                  rw [e, (r.N _ t1).1] at h1
                  rw [← Option.some.inj h1] at hb
                  exact Bool.noConfusion (show true = false from hb)
                rw [eA]
                exact op_new_422_lt (tcl := 0) O.B r.F X (fun p hp => by
                  rcases List.mem_cons.mp hp with rfl | hp
                  · exact r.N _ t1
                  · exact r.N p (offT_sub p hp)) O.T O.hf O.hke (by omega) (by omega) O.M O.old (r.gens hfz) offT_ne t2 hq hq2 (offT_mem d2 (ne _ d2 rfl)) (offT_mem e2 (ne _ e2 rfl)) (opR_of r hfz hfr hT hD t1 fun x W' m' s' r' g' v' => k _ x σ W' m' s' h r' g' v')
theorem call_op451_lt (O : Ok S c n) (hn : 60 ≤ n) (hfz : c.fz = false) (hfr : c.frz = []) {q cc na u v : Int} {k1 : Nat} {P : V → St → Prop} (hq : 0 < q) (hq2 : q < 1000) (h1 : σ.ls[k1]? = some [.int u, .int v]) 
    (h : P (opV 190 q cc na (Int.fmod u q) (Int.fmod v q)) σ) : CallS S c (.old (.ref 190)) [.lst k1, .tup [.int cc, .int na], .int q] σ P := fun W f xs hf hxs m s Q r k => by
  obtain ⟨dp, un, gd, eA, hdp, hun⟩ := O.lit
  cases hf
  cases hxs with
  | cons b1 z => cases z with
    | cons b2 z => cases z with
      | cons b3 z =>
        cases z; cases b3
        have X := hK ▸ O.X
        obtain ⟨x1, ys1, n1, rfl, d1, d2, d3⟩ := r.lstAt h1 b1
        obtain ⟨x2, ys2, rfl, e2, e3, _⟩ := b2.isTup r
        cases d3 with
        | cons p1 z => cases z with
          | cons p2 z =>
            cases z; cases p1; cases p2
            cases e3 with
            | cons p3 z => cases z with
              | cons p4 z =>
                cases z; cases p3; cases p4
                obtain ⟨ps, t1, t2⟩ := r.tabs hfz _ hT
                have ne : ∀ p ∈ W.news, tabB p.2 = false → p.1 ≠ 49 := fun p h hb e => by
                  have h1 := (r.N p h).1
                  rw [e, (r.N _ t1).1] at h1
                  rw [← Option.some.inj h1] at hb
                  exact Bool.noConfusion (show true = false from hb)
                rw [eA]
                exact op_new_451_lt (tcl := 0) O.B r.F X (fun p hp => by
                  rcases List.mem_cons.mp hp with rfl | hp
                  · exact r.N _ t1
                  · exact r.N p (offT_sub p hp)) O.T O.hf O.hke (by omega) (by omega) O.M O.old (r.gens hfz) offT_ne t2 hq hq2 (offT_mem d2 (ne _ d2 rfl)) (offT_mem e2 (ne _ e2 rfl)) (opR_of r hfz hfr hT hD t1 fun x W' m' s' r' g' v' => k _ x σ W' m' s' h r' g' v')
end
end Mine

end

section
set_option maxRecDepth 100000
set_option autoImplicit false
set_option linter.unusedVariables false
namespace Mine
open PySem PySem.W PyProof.Rows PySem.Calls PyProof.Rows.LCg
section
variable {S : Sx} {c : Cx} {env : Env} {σ : St} {n : Nat} {W : Wd} {m : Str → Option Value} {s : Shared}
theorem adne (N : Nat) {i j : Nat} (h : i ≠ j) : @Ne Addr (N + i) (N + j) := fun e => h (Nat.add_left_cancel e)
theorem adle (N : Nat) (i : Nat) : @LE.le Nat _ N (N + i) := Nat.le_add_right N i
theorem eval_callQ {f e : Expr} {rest : List Expr} {pos : Pos} {id : String} {P : List V → St → Prop} {Q : Value → Shared → Prop} (he : eval (.Call f (e :: rest) [] pos) env = (do callWith pos (← eval f env) [] (backTo pos (starEach (e :: rest) env)) (backToKw pos (keywordEach [] env))))
    (he2 : starEach (e :: rest) env = (false, eval e env) :: starEach rest env) (hp : (backTo pos (starEach rest env)).any (·.1) = false)
    (h : EvS S c env f σ fun v σ₁ => v = .old (.type id) ∧ EvsS S c env pos (e :: rest) σ₁ P) (r : R S c σ W m s)
    (q : ∀ vs us σ₂ W₂ m₂ s₂, P vs σ₂ → R S c σ₂ W₂ m₂ s₂ → Gr c [] W W₂ → VRs W₂ vs us → wpAny (model S.prog S.w) c.A (call (.type id) us) Q (fun _ _ => False) s₂) :
    wpAny (model S.prog S.w) c.A (eval (.Call f (e :: rest) [] pos) env) Q (fun _ _ => False) s := by
  refine Call_ (h W m s _ r fun v u σ₁ W₁ m₁ s₁ h₁ r₁ l₁ e₁ => ?_) he
  obtain ⟨rfl, h₁⟩ := h₁
  cases e₁
  have hw := h₁ W₁ m₁ s₁ (fun vs s₂ => True ∧ wpAny (model S.prog S.w) c.A (call (.type id) ([] ++ vs)) Q (fun _ _ => False) s₂) r₁ fun vs us σ₂ W₂ m₂ s₂ h₂ r₂ l₂ e₂ => ⟨trivial, q vs us σ₂ W₂ m₂ s₂ h₂ r₂ (l₁.trans l₂) e₂⟩
  rw [he2] at hw ⊢
  exact callWith_of (P := fun _ => True) (by show ((false || (backTo pos (starEach rest env)).any (·.1)) || false) = false; rw [hp]; rfl) (fun _ _ => ⟨.machine, .inr (.inl rfl), Looks.of_pure rfl⟩) (evalArgs_plain hw)

theorem ev_listE (O : Ok S c n) (hfz : c.fz = false) {f g e : Expr} {p1 p2 : Pos} {P : V → St → Prop} (he : eval (.Call f [.Call g [e] [] p1] [] p2) env = (do callWith p2 (← eval f env) [] (backTo p2 (starEach [.Call g [e] [] p1] env)) (backToKw p2 (keywordEach [] env))))
    (he2 : starEach [.Call g [e] [] p1] env = (false, eval (.Call g [e] [] p1) env) :: starEach [] env) (hp : (backTo p2 (starEach [] env)).any (·.1) = false)
    (he' : eval (.Call g [e] [] p1) env = (do callWith p1 (← eval g env) [] (backTo p1 (starEach [e] env)) (backToKw p1 (keywordEach [] env))))
    (he2' : starEach [e] env = (false, eval e env) :: starEach [] env) (hp' : (backTo p1 (starEach [] env)).any (·.1) = false)
    (h : EvS S c env f σ fun v σ₁ => v = .old (.type "list") ∧ EvS S c env g σ₁ fun v σ₂ => v = .old (.type "enumerate") ∧ EvsS S c env p1 [e] σ₂ fun vs σ₃ => ∃ a b, vs = [.tup [a, b]] ∧ P (.flst [.tup [.int 0, a], .tup [.int 1, b]]) σ₃) :
    EvS S c env (.Call f [.Call g [e] [] p1] [] p2) σ P := fun W m s Q r q => by
  refine Call_ (h W m s _ r fun v u σ₁ W₁ m₁ s₁ h₁ r₁ l₁ e₁ => ?_) he
  obtain ⟨rfl, h₁⟩ := h₁
  cases e₁
  have hw : wpAny (model S.prog S.w) c.A (spliced (backTo p2 (starEach [.Call g [e] [] p1] env))) (fun vs s₂ => True ∧ wpAny (model S.prog S.w) c.A (call (.type "list") ([] ++ vs)) Q (fun _ _ => False) s₂) (fun _ _ => False) s₁ := by
    refine wpAny_items_cons (eval_callQ he' he2' hp' h₁ r₁ fun vs us σ₂ W₂ m₂ s₂ h₂ r₂ l₂ e₂ => ?_) he2
    obtain ⟨a, b, rfl, h₂⟩ := h₂
    cases e₂ with
    | cons h1 h2 =>
      cases h2
      obtain ⟨ax, ys, rfl, a1, a2, a3⟩ := h1.isTup r₂
      cases a2 with
      | cons b1 b2 => cases b2 with
        | cons b2 b3 =>
          cases b3
          rename_i y0 y1
          refine callType_new PySem.F.called_enumerate (by decide) (PySem.F.typeCall_enumerate_1 _) (PySem.F.newCall_enumerate_1 _) (fun obj => PySem.F.args_object_init_2 obj _) PySem.F.entry_enumerate_new (meets_enumT ax #[y0, y1] 0) ⟨(r₂.N _ a1).1, ?_⟩
          have hz : (s₂.heap.push { cls := .type "tuple_iterator", data := .fields #[.ref ax, .int 0 0] }).objs.size = s₂.heap.objs.size + 1 := Heap.size_push ..
          have up : ∀ b o, s₂.heap.get? b = some o → ((s₂.heap.push { cls := .type "tuple_iterator", data := .fields #[.ref ax, .int 0 0] }).push { cls := .type "enumerate", data := .fields #[.none, .bool false, .ref s₂.heap.objs.size, rawInt 0, .none, .none] }).get? b = some o := fun b o e => Heap.get?_push_of_some _ (Heap.get?_push_of_some _ e)
          have hE : IsEnum ((s₂.heap.push { cls := .type "tuple_iterator", data := .fields #[.ref ax, .int 0 0] }).push { cls := .type "enumerate", data := .fields #[.none, .bool false, .ref s₂.heap.objs.size, rawInt 0, .none, .none] }) (s₂.heap.push { cls := .type "tuple_iterator", data := .fields #[.ref ax, .int 0 0] }).objs.size s₂.heap.objs.size 0 .none := Heap.get?_push_size _ rfl
          have hI : ((s₂.heap.push { cls := .type "tuple_iterator", data := .fields #[.ref ax, .int 0 0] }).push { cls := .type "enumerate", data := .fields #[.none, .bool false, .ref s₂.heap.objs.size, rawInt 0, .none, .none] }).IsTupleIter s₂.heap.objs.size ax 0 := ⟨_, Heap.get?_push_of_some _ (Heap.get?_push_size _ rfl), rfl, rfl⟩
          have hTp : ((s₂.heap.push { cls := .type "tuple_iterator", data := .fields #[.ref ax, .int 0 0] }).push { cls := .type "enumerate", data := .fields #[.none, .bool false, .ref s₂.heap.objs.size, rawInt 0, .none, .none] }).IsTuple ax #[y0, y1] := ⟨_, up _ _ (r₂.N _ a1).1, rfl, _, rfl⟩
          have hz2 : ((s₂.heap.push { cls := .type "tuple_iterator", data := .fields #[.ref ax, .int 0 0] }).push { cls := .type "enumerate", data := .fields #[.none, .bool false, .ref s₂.heap.objs.size, rawInt 0, .none, .none] }).objs.size = s₂.heap.objs.size + 2 := by rw [Heap.size_push, hz]
          have hlt : ax < s₂.heap.objs.size := Heap.lt_size (r₂.N _ a1).1
          refine ⟨⟨_, hE, rfl⟩, wpAny_items_nil ⟨trivial, ?_⟩⟩
          rw [hz] at hE ⊢
          have oldlt : ∀ b o, s₂.heap.get? b = some o → b < s₂.heap.objs.size := fun b o e => Heap.lt_size e
          generalize (s₂.heap.push { cls := .type "tuple_iterator", data := .fields #[.ref ax, .int 0 0] }).push { cls := .type "enumerate", data := .fields #[.none, .bool false, .ref s₂.heap.objs.size, rawInt 0, .none, .none] } = H2 at *
          have hlts := lt_size r₂
          obtain ⟨H0, gg, dd, tt, oo⟩ := s₂
          dsimp only at *
          generalize hN : H0.objs.size = N at *
          have nit : ∀ b o, H0.get? b = some o → b ≠ N ∧ b ≠ N + 1 ∧ b ≠ N + 2 := fun b o e => by
            have := oldlt b o e
            have h1 : (b : Nat) < N := this
            exact ⟨Nat.ne_of_lt h1, Nat.ne_of_lt (Nat.lt_succ_of_lt h1), Nat.ne_of_lt (Nat.lt_succ_of_lt (Nat.lt_succ_of_lt h1))⟩
          show wpAny _ _ (call (.type "list") [.ref (N + 1)]) _ _ _
          refine list_enum hE fun h3 c3 z3 k3 l3 => ?_
          dsimp only at z3 k3 l3 ⊢
          rw [hz2] at z3 l3 ⊢
          have D : Draws S.prog S.w c.A.in1.in1.in1 N [N, ax] 2 (fun i v => (#[y0, y1] : Array Value)[i]? = some v) (fun i h => h.IsTupleIter N ax i ∧ h.IsTuple ax #[y0, y1]) := drawsT (A := c.A.in1.in1.in1) O.hh N ax (Nat.ne_of_lt hlt) #[y0, y1]
          have a10 : @Ne Addr (N + 1) N := adne N (i := 1) (j := 0) (by decide)
          have a12 : @Ne Addr (N + 1) (N + 2) := adne N (by decide)
          have a20 : @Ne Addr (N + 2) N := adne N (i := 2) (j := 0) (by decide)
          have a21 : @Ne Addr (N + 2) (N + 1) := adne N (by decide)
          have a30 : @Ne Addr (N + 2 + 1) N := adne N (i := 3) (j := 0) (by decide)
          have a31 : @Ne Addr (N + 2 + 1) (N + 1) := adne N (i := 3) (by decide)
          have a32 : @Ne Addr (N + 2 + 1) (N + 2) := adne N (i := 3) (by decide)
          have a40 : @Ne Addr (N + 4) N := adne N (i := 4) (j := 0) (by decide)
          have a42 : @Ne Addr (N + 4) (N + 2) := adne N (by decide)
          have hef : N + 1 ∉ [N, ax] := by
            intro hm
            rcases List.mem_cons.mp hm with h | hm
            · exact absurd h a10
            · have := List.mem_singleton.mp hm
              have h1 : (ax : Nat) < N := hlt
              rw [← this] at h1; exact absurd h1 (Nat.not_lt.mpr (Nat.le_succ N))
          have hSf : ∀ b ∈ [N, ax], b ≠ N + 2 := by
            intro b hb
            rcases List.mem_cons.mp hb with rfl | hb
            · exact a20.symm
            · rw [List.mem_singleton.mp hb]
              have h1 : (ax : Nat) < N := hlt
              exact Nat.ne_of_lt (Nat.lt_succ_of_lt (Nat.lt_succ_of_lt h1))
          refine ext_turn l3 (by decide) (wpAny_pyNext_enum_itemD D (k3 _ _ hE) ⟨hI.at fun o e => k3 _ _ e, hTp.at fun o e => k3 _ _ e⟩ (by decide) a10 hef fun x0 h4 tk4 p4 o4 st4 t4 z4 k4 => ?_)
          dsimp only at o4 t4 z4 k4 ⊢
          rw [z3] at o4 t4 z4 ⊢
          cases p4
          refine ⟨_, rfl, k4 _ _ a21 a20 l3, fun h5 z5 k5 l5 => ?_⟩
          obtain ⟨c5, l5⟩ := l5
          have t5 := k5 _ _ a32 t4
          have o5 : EnumH h5 (N + 1) N ((1 : Nat) : Int) y0 (N + 2 + 1) false := k5 _ _ a12 o4
          refine ext_turn l5 (by show 1 < 1000; decide) (enum_held D o5 (D.frame _ _ _ st4 fun b hb o e => k5 _ _ (hSf b hb) e) (by decide) a10 hef t5 a31 a30 fun x1 h6 tk6 p6 o6 st6 t6 z6 k6 => ?_)
          dsimp only at o6 t6 z6 k6 ⊢
          have z5' : h5.objs.size = N + 4 := by rw [z5, z4]
          rw [z5'] at t6 z6 ⊢
          cases p6
          refine ⟨_, rfl, k6 _ _ a21 a20 l5, fun h7 z7 k7 l7 => ?_⟩
          obtain ⟨c7, l7⟩ := l7
          have t7 := k7 _ _ a42 t6
          have t7' := k7 _ _ a32 (k6 _ _ a31 a30 t5)
          have o7 := k7 _ _ a12 o6
          refine ext_done (enum_heldE D o7 (D.frame _ _ _ st6 fun b hb o e => k7 _ _ (hSf b hb) e) fun h8 k8 => ⟨rfl, rfl, ?_⟩)
          have all : ∀ b o, H0.get? b = some o → h8.get? b = some o := fun b o e => by
            obtain ⟨n1, n2, n3⟩ := nit b o e
            have e2 := k3 _ _ (up _ _ e)
            have e4 := k4 _ _ n2 n1 e2
            have e5 := k5 _ _ n3 e4
            have e6 := k6 _ _ n2 n1 e5
            exact k8 _ _ n1 (k7 _ _ n3 e6)
          have fr0 : ∀ b, N ≤ b → c.h₀.get? b = none := fun b hb => by
            cases e : c.h₀.get? b with
            | none => rfl
            | some o =>
              have := oldlt _ _ (r₂.F.keep b o e)
              exact absurd this (Nat.not_lt.mpr hb)
          have hL : c.L < N := hN ▸ r₂.F.ns.lt
          have neL : ∀ b, N ≤ b → b ≠ c.L := fun b hb e => by rw [e] at hb; exact absurd hL (Nat.not_lt.mpr hb)
          have r3 := r₂.keep (h' := h8) (tk := tk6 + 1) all
          have r4 := r3.next (new := [(N + 2, listOf #[.ref (N + 2 + 1), .ref (N + 4)] c7), (N + 2 + 1, tupO #[.int ((0 : Nat) : Int) tk4, y0]), (N + 4, tupO #[.int ((1 : Nat) : Int) tk6, y1])]) (h' := h8) (tk := tk6 + 1) r3.F (fun p hp => ?_) (fun b hb p hp => ?_)
          · refine q _ _ σ₂ _ m₂ _ h₂ r4 (l₁.trans (l₂.trans ⟨⟨fun p hp _ => List.mem_append_right _ hp, fun _ _ h => h, fun _ h => .inl h, fun p hp => ⟨p, List.mem_append_right _ hp, rfl⟩⟩, fun h => (by rw [hfz] at h; cases h)⟩)) ?_
            have lw : Le [] W₂ ⟨[(N + 2, listOf #[.ref (N + 2 + 1), .ref (N + 4)] c7), (N + 2 + 1, tupO #[.int ((0 : Nat) : Int) tk4, y0]), (N + 4, tupO #[.int ((1 : Nat) : Int) tk6, y1])] ++ W₂.news, W₂.al⟩ := ⟨fun p hp _ => List.mem_append_right _ hp, fun _ _ h => h, fun _ h => .inl h, fun p hp => ⟨p, List.mem_append_right _ hp, rfl⟩⟩
            refine .flst (xs := [.ref (N + 2 + 1), .ref (N + 4)]) (n := c7) (List.mem_append_left _ (.head _)) (fun hm => ?_) (.cons (.tup (xs := [.int ((0 : Nat) : Int) tk4, y0]) (List.mem_append_left _ (.tail _ (.head _))) (.cons .int (.cons (b1.mono lw) .nil))) (.cons (.tup (xs := [.int ((1 : Nat) : Int) tk6, y1]) (List.mem_append_left _ (.tail _ (.tail _ (.head _)))) (.cons .int (.cons (b2.mono lw) .nil))) .nil))
            obtain ⟨j, hj⟩ := List.mem_iff_getElem?.mp hm
            have hlt : j < σ₂.ls.length := by
              rw [← r₂.len]
              exact (List.getElem?_eq_some_iff.mp hj).1
            obtain ⟨a', xs, n, e1, e2, e3⟩ := r₂.ls j _ (List.getElem?_eq_getElem hlt)
            have : a' = N + 2 := Option.some.inj (e1.symm.trans hj)
            have h1 := oldlt _ _ (r₂.N _ e2).1
            dsimp only at h1
            rw [this] at h1
            exact absurd h1 (Nat.not_lt.mpr (adle N 2))
          · rcases List.mem_append.mp hp with hp | hp
            · rcases List.mem_cons.mp hp with rfl | hp
              · exact ⟨k8 _ _ a20 l7, neL _ (adle N 2), fr0 _ (adle N 2)⟩
              rcases List.mem_cons.mp hp with rfl | hp
              · exact ⟨k8 _ _ a30 t7', neL _ (adle N 3), fr0 _ (adle N 3)⟩
              cases List.mem_singleton.mp hp
              exact ⟨k8 _ _ a40 t7, neL _ (adle N 4), fr0 _ (adle N 4)⟩
            · exact r3.all p hp
          · have h1 : (b.1 : Nat) < N := hlts b hb
            rcases List.mem_cons.mp hp with rfl | hp
            · exact Nat.lt_succ_of_lt (Nat.lt_succ_of_lt h1)
            rcases List.mem_cons.mp hp with rfl | hp
            · exact Nat.lt_succ_of_lt (Nat.lt_succ_of_lt (Nat.lt_succ_of_lt h1))
            cases List.mem_singleton.mp hp
            exact Nat.lt_succ_of_lt (Nat.lt_succ_of_lt (Nat.lt_succ_of_lt (Nat.lt_succ_of_lt h1)))
  rw [he2] at hw ⊢
  exact callWith_of (P := fun _ => True) (by show ((false || (backTo p2 (starEach [] env)).any (·.1)) || false) = false; rw [hp]; rfl) (fun _ _ => ⟨.machine, .inr (.inl rfl), Looks.of_pure rfl⟩) (evalArgs_plain hw)
end
end Mine

end

section
set_option maxRecDepth 100000
set_option autoImplicit false
set_option linter.unusedVariables false
set_option Elab.async false
set_option maxHeartbeats 4000000
open PySem PySem.W PyProof.Rows PySem.Calls
namespace Mine
open PyProof.Rows.LCg
section
variable {S : Sx} {c : Cx} {env : Env} {σ : St} {n : Nat}
theorem bl_weak {σ' : St} {sts : List Stmt} {P : Fl → St → Prop} (hl : ∀ x v, σ'.loc.lookup x = some v → σ.loc.lookup x = some v) (h2 : σ'.cv = σ.cv) (h3 : σ'.ls = σ.ls) (h : BlS S c sts σ' P) : BlS S c sts σ P :=
  fun W m s Q r q => h W m s Q (r.weaken hl h2 h3) q
theorem LoopS.mono {target : Expr} {body : List Stmt} {P P' : Fl → St → Prop} (k : ∀ fl σ, P fl σ → P' fl σ) : ∀ {items : List It} {σ : St}, LoopS S c n target body items σ P → LoopS S c n target body items σ P'
  | [], _, h => k _ _ h
  | it :: r, σ, h => fun c' a b d e W x m s Q r' i q => h c' a b d e W x m s Q r' i fun g b' σ' W' m' s' p => q g b' σ' W' m' s' fun W m s Q r q => p W m s Q r fun g b σ' W' m' s' p => q g b σ' W' m' s' (by
      cases g with
      | next => exact LoopS.mono k p
      | ret v => exact k _ _ p)
theorem lp_join {target : Expr} {body : List Stmt} {items : List It} {rest : List Stmt} {P : Fl → St → Prop} (L' : List (Str × V)) (ls' : List (List V)) (main : BlS S c rest ⟨L', σ.cv, ls'⟩ P)
    (h : LoopS S c n target body items σ fun fl σ₁ => fl = .next ∧ σ₁.cv = σ.cv ∧ σ₁.ls = ls' ∧ ∀ p ∈ L', σ₁.loc.lookup p.1 = some p.2) : LoopS S c n target body items σ (seqK S c rest P) :=
  LoopS.mono (fun fl σ₁ ⟨h1, h2, h3, h4⟩ => by
    subst h1
    exact bl_weak (σ' := ⟨L', σ.cv, ls'⟩) (fun x v e => h4 _ (lookup_pair e)) h2.symm h3.symm main) h
theorem lp_mc {target : Expr} {body : List Stmt} {P : Fl → St → Prop} {cc na : Int}
    (h1 : (cc != 0) = true → (na != 0) = true → LoopS S c n target body [.val (.tup [.int 0, .int cc]), .val (.tup [.int 1, .int na])] σ P)
    (h2 : (cc != 0) = true → na = 0 → LoopS S c n target body [.val (.tup [.int 0, .int cc])] σ P)
    (h3 : cc = 0 → (na != 0) = true → LoopS S c n target body [.val (.tup [.int 1, .int na])] σ P)
    (h4 : cc = 0 → na = 0 → LoopS S c n target body [] σ P) : LoopS S c n target body (((mcI cc na).map pairV).map .val) σ P := by
  unfold mcI
  by_cases e1 : (cc != 0) = true
  · rw [if_pos e1]
    by_cases e2 : (na != 0) = true
    · rw [if_pos e2]; exact h1 e1 e2
    · rw [if_neg e2]; exact h2 e1 (by simpa using e2)
  · rw [if_neg e1]
    by_cases e2 : (na != 0) = true
    · rw [if_pos e2]; exact h3 (by simpa using e1) e2
    · rw [if_neg e2]; exact h4 (by simpa using e1) (by simpa using e2)
end

structure OpCls (P : Params) (C fm : Addr) : Prop where
  a1 : AttOk (hd.heap_39 P) C "field_modulus"
  a2 : AttOk (hd.heap_39 P) C "coeffs"
  a3 : AttOk (hd.heap_39 P) C "modulus_coeffs"
  a4 : AttOk (hd.heap_39 P) C "degree"
  a5 : AttOk (hd.heap_39 P) C "mc_tuples"
  m1 : MthOk (hd.heap_39 P) C "made" fm
  m2 : MthOk (hd.heap_39 P) C "inv" 110
  m3 : MthOk (hd.heap_39 P) C "optimized_poly_rounded_div" 105
  oc : OwnCls (hd.heap_39 P) C
  k1 : kitOne (hd.heap_39 P) (.ref C) (.type "int") = some false
  k2 : kitOne (hd.heap_39 P) (.ref C) (.ref 161) = some true
  b1 : BinOk (hd.heap_39 P) C 64 Operator.Add.info.2
  b2 : BinOk (hd.heap_39 P) C 81 Operator.Mult.info.2
  b3 : BinIOk (hd.heap_39 P) C 93 Operator.Div.info.2
  b4 : BinIOk (hd.heap_39 P) C 100 Operator.Pow.info.2
theorem opcls422 (P : Params) : OpCls P 161 59 := ⟨at_422_field_modulus P, at_422_coeffs P, at_422_modulus_coeffs P, at_422_degree P, at_422_mc_tuples P, mt_422_made P, mt_422_inv P, mt_422_optimized_poly_rounded_div P, oc_422 P, ko_422_int P, ko_422_422 P, bo_422_Add P, bo_422_Mult P, bi_422_Div P, bi_422_Pow P⟩
theorem opcls451 (P : Params) : OpCls P 190 179 := ⟨at_451_field_modulus P, at_451_coeffs P, at_451_modulus_coeffs P, at_451_degree P, at_451_mc_tuples P, mt_451_made P, mt_451_inv P, mt_451_optimized_poly_rounded_div P, oc_451 P, ko_451_int P, ko_451_422 P, bo_451_Add P, bo_451_Mult P, bi_451_Div P, bi_451_Pow P⟩

structure MadeOk (S : Sx) (C fm : Addr) : Prop where
  made : ∀ (c : Cx) (σ : St) (n : Nat) (q cc na u v u0 v0 : Int) (k : Nat) (P : V → St → Prop), c.fz = false → c.frz = [] → Ok S c n → 80 ≤ n → 0 < q → q < 1000 → σ.ls[k]? = some [.int u, .int v] → P (opV C q cc na (Int.fmod u q) (Int.fmod v q)) σ → CallS S c (.old (.ref fm)) [opV C q cc na u0 v0, .lst k] σ P
theorem call_made {S : Sx} {c : Cx} {σ : St} {n : Nat} {C fm : Addr} (hM : MadeOk S C fm) (O : Ok S c n) (hn : 80 ≤ n) (hfz : c.fz = false) (hfr : c.frz = []) {q cc na u v u0 v0 : Int} {k : Nat} {P : V → St → Prop} (hq : 0 < q) (hq2 : q < 1000) (hk : σ.ls[k]? = some [.int u, .int v]) (h : P (opV C q cc na (Int.fmod u q) (Int.fmod v q)) σ) :
    CallS S c (.old (.ref fm)) [opV C q cc na u0 v0, .lst k] σ P := hM.made c σ n q cc na u v u0 v0 k P hfz hfr O hn hq hq2 hk h
theorem noLst_op {C : Addr} {q cc na u v : Int} : noLst (opV C q cc na u v) = true := by
  have h : noLsts ((mcI cc na).map pairV) = true := by
    unfold mcI
    by_cases e1 : (cc != 0) = true
    · rw [if_pos e1]
      by_cases e2 : (na != 0) = true
      · rw [if_pos e2]; rfl
      · rw [if_neg e2]; rfl
    · rw [if_neg e1]
      by_cases e2 : (na != 0) = true
      · rw [if_pos e2]; rfl
      · rw [if_neg e2]; rfl
  simp [noLst, noLsts, noLstF, h]
theorem fmO_self {a q : Int} (h0 : 0 ≤ a) (h1 : a < q) : Int.fmod a q = a := by rw [Int.fmod_eq_emod_of_nonneg a (by omega)]; exact Int.emod_eq_of_lt h0 h1
theorem op_eq {C : Addr} {q cc na u v u' v' : Int} {σ : St} {P : V → St → Prop} (h1 : u' = u) (h2 : v' = v) (h : P (opV C q cc na u v) σ) : P (opV C q cc na u' v') σ := h1 ▸ h2 ▸ h
end Mine

end

section
set_option maxRecDepth 100000
set_option autoImplicit false
set_option linter.unusedVariables false
namespace Mine
open PySem PySem.W PyProof.Rows PySem.Calls
theorem kind_pow : builtinKind "pow" = none := by decide +kernel
theorem plain_pow : plainId "pow" = true := by decide +kernel
theorem entry_pow : entryFor table "pow" = some Builtin.«pow» := entryFor_of_fast (by kernel_rfl)
theorem args_pow3 (a b c : Value) : argsOk "pow" ⟨[a, b, c], []⟩ := by unfold argsOk; kernel_rfl
theorem slot_pow : Slot "int" (Str.ofString "__pow__") "int.__pow__" := PySem.F.slot_int_pow
section
variable {prog : Program} {w : World} {A : Around} {E : Value → Shared → Prop} {s : Shared}
theorem call_pow3 {a b m : Int} {ta tb tm : Tok} {Q : Value → Shared → Prop} (hb : 0 ≤ b) (hm : 1 < m) (h : ∀ u tk, Q (.int ((Builtin.powMod (a % m).toNat b.toNat m.toNat : Nat) : Int) u) { s with toks := tk }) :
    wpAny (model prog w) A (call (.builtin "pow") [.int a ta, .int b tb, .int m tm]) Q E s := by
  refine call_function_entry kind_pow plain_pow entry_pow (args_pow3 _ _ _) ?_
  unfold Builtin.«pow»
  refine wpAny_bind (m := Builtin.Builtins.bindParams "pow" ["base", "exp", "mod"] 2 _) (wpAny_of_eq (a := [some (.int a ta), some (.int b tb), some (.int m tm)]) rfl ?_)
  show wpAny _ _ (rule "pow.mod" >>= _) _ _ s
  refine wpAny_bind (wpAny_rule ?_)
  show wpAny _ _ (typeOf (.int a ta) >>= _) _ _ s
  refine wpAny_bind (wpAny_typeOf (typeIs_int s a ta) ?_)
  dsimp only [Option.getD_some]
  refine wpAny_bind (wpAny_of_eq slot_pow.lookup ?_)
  dsimp only
  refine wpAny_bind (m := callSpecial? (.int a ta) (Str.ofString "__pow__") [.int b tb, .int m tm]) (wpAny_callSpecial?_slot (name := Str.ofString "__pow__") (typeIs_int s a ta) slot_pow
    (wpAny_call_entry slot_pow (typeIs_int s a ta) PySem.F.entry_int_pow ?_ (PySem.F.args_int_pow_3 _ _ _)))
  show wpAny _ _ (Builtin.Int.intOfSelf (.int a ta) >>= _) _ _ s
  refine wpAny_bind (m := Builtin.Int.intOfSelf (.int a ta)) (wpAny_of_eq (a := a) rfl ?_)
  show wpAny _ _ (if (m == 0) = true then _ else _) _ _ s
  rw [if_neg (by simp; omega)]
  show wpAny _ _ (if (m.natAbs == 1) = true then _ else _) _ _ s
  rw [if_neg (by simp; omega)]
  show wpAny _ _ (if b < 0 then _ else _) _ _ s
  rw [if_neg (by omega)]
  have e1 : (m.natAbs : Int) = m := Int.natAbs_of_nonneg (by omega)
  have e2 : m.natAbs = m.toNat := by omega
  have e3 : b.natAbs = b.toNat := by omega
  show wpAny _ _ (retInt (if (decide (m < 0) && (((Builtin.powMod (a % (m.natAbs : Int)).toNat b.natAbs m.natAbs : Nat) : Int) != 0)) = true then _ else ((Builtin.powMod (a % (m.natAbs : Int)).toNat b.natAbs m.natAbs : Nat) : Int))) _ _ s
  rw [if_neg (by simp; omega), e1, e2, e3]
  exact wpAny_ret_mkInt (wpAny_pure ⟨_, rfl, h _ _⟩)
end
end Mine

end

section
set_option maxRecDepth 100000
set_option autoImplicit false
set_option linter.unusedVariables false
namespace Mine
open PySem

def mulE (cc na : Int) (x y : Int × Int) : Int × Int := (x.1 * y.1 - x.2 * y.2 * cc, x.1 * y.2 + x.2 * y.1 - x.2 * y.2 * na)
def powE (cc na : Int) : Nat → Int × Int → Int × Int
  | 0, _ => (1, 0)
  | k + 1, x => mulE cc na (powE cc na k x) x
def CP (q : Int) (x y : Int × Int) : Prop := MEq q x.1 y.1 ∧ MEq q x.2 y.2
def InQ (q : Int) (x : Int × Int) : Prop := (0 ≤ x.1 ∧ x.1 < q) ∧ (0 ≤ x.2 ∧ x.2 < q)
theorem mulE_assoc (cc na : Int) (x y z : Int × Int) : mulE cc na (mulE cc na x y) z = mulE cc na x (mulE cc na y z) := by
  obtain ⟨a, b⟩ := x; obtain ⟨c, d⟩ := y; obtain ⟨e, f⟩ := z
  simp only [mulE, Prod.mk.injEq]
  constructor <;> grind
theorem mulE_one (cc na : Int) (x : Int × Int) : mulE cc na (1, 0) x = x := by
  obtain ⟨a, b⟩ := x
  simp [mulE]
theorem mulE_one' (cc na : Int) (x : Int × Int) : mulE cc na x (1, 0) = x := by
  obtain ⟨a, b⟩ := x
  simp [mulE]
theorem mulE_comm (cc na : Int) (x y : Int × Int) : mulE cc na x y = mulE cc na y x := by
  obtain ⟨a, b⟩ := x; obtain ⟨c, d⟩ := y
  simp only [mulE, Prod.mk.injEq]
  constructor <;> grind
theorem powE_add (cc na : Int) (x : Int × Int) (j : Nat) : ∀ k, powE cc na (j + k) x = mulE cc na (powE cc na j x) (powE cc na k x)
  | 0 => by rw [powE, mulE_one']; rfl
  | k + 1 => by rw [← Nat.add_assoc, powE, powE_add cc na x j k, mulE_assoc]; rfl
theorem powE_sq (cc na : Int) (x : Int × Int) : ∀ k, powE cc na k (mulE cc na x x) = powE cc na (k + k) x
  | 0 => rfl
  | k + 1 => by
    rw [powE, powE_sq cc na x k, show k + 1 + (k + 1) = (k + k) + 1 + 1 by omega, powE, powE, mulE_assoc]
theorem CP.refl {q : Int} (x : Int × Int) : CP q x x := ⟨.rfl', .rfl'⟩
theorem MEq.symm {q a b : Int} (h : MEq q a b) : MEq q b a := by
  obtain ⟨k, h⟩ := h; exact ⟨-k, by rw [h]; grind⟩
theorem MEq.trans {q a b c : Int} (h : MEq q a b) (h' : MEq q b c) : MEq q a c := by
  obtain ⟨k, h⟩ := h; obtain ⟨l, h'⟩ := h'; exact ⟨k + l, by rw [h, h']; grind⟩
theorem CP.trans {q : Int} {x y z : Int × Int} (h : CP q x y) (h' : CP q y z) : CP q x z := ⟨h.1.trans h'.1, h.2.trans h'.2⟩
theorem CP.symm {q : Int} {x y : Int × Int} (h : CP q x y) : CP q y x := ⟨h.1.symm, h.2.symm⟩
theorem MEq.fmr {q a : Int} : MEq q (Int.fmod a q) a := MEq.fm .rfl'
theorem CP.mul {q cc na : Int} {x y x' y' : Int × Int} (h : CP q x x') (h' : CP q y y') : CP q (mulE cc na x y) (mulE cc na x' y') :=
  ⟨((h.1.mul h'.1).sub ((h.2.mul h'.2).mul .rfl')), (((h.1.mul h'.2).add (h.2.mul h'.1)).sub ((h.2.mul h'.2).mul .rfl'))⟩
theorem CP.pow {q cc na : Int} {x x' : Int × Int} (h : CP q x x') : ∀ k, CP q (powE cc na k x) (powE cc na k x')
  | 0 => .refl _
  | k + 1 => (CP.pow h k).mul h
theorem CP.fm {q : Int} {x : Int × Int} : CP q (Int.fmod x.1 q, Int.fmod x.2 q) x := ⟨.fmr, .fmr⟩
theorem meq_in {q a b : Int} (h : MEq q a b) (a0 : 0 ≤ a) (a1 : a < q) (b0 : 0 ≤ b) (b1 : b < q) : a = b := by
  have := h.eq
  rw [fm_id a0 a1, fm_id b0 b1] at this
  exact this
theorem MEq.zero {q a : Int} (h : MEq q a 0) : Int.fmod a q = 0 := by rw [h.eq, Int.zero_fmod]
end Mine

end

section
set_option maxRecDepth 100000
set_option autoImplicit false
set_option linter.unusedVariables false
namespace Mine
open PySem
def rowE (a c f s : Int) : Nat → Int × Int
  | 0 => (f, s)
  | i + 1 => ((rowE a c f s i).2, a * (rowE a c f s i).2 - c * (rowE a c f s i).1)
end Mine

end

section
set_option maxRecDepth 100000
set_option autoImplicit false
set_option linter.unusedVariables false
namespace Mine
open PySem
def primeL : List Nat := [5, 7, 11, 13, 17, 19, 23, 29, 31, 43, 61, 97]
def inM (p a : Nat) : Nat := a ^ (p - 2) % p
def sqM (p d : Nat) : Bool := (List.range p).any fun k => k != 0 && k * k % p == d
def stepM (p c : Nat) (x : Nat × Nat) : Nat × Nat := (x.2, (x.2 + (p - c * x.1 % p)) % p)
def rowM (p c : Nat) : Nat → Nat × Nat
  | 0 => (0, 1)
  | n + 1 => stepM p c (rowM p c n)
def disM (p c : Nat) : Nat := (1 + 4 * p - 4 * c) % p
def chk2 (p : Nat) : Bool := (List.range p).all fun c => c == 0 || disM p c == 0 || (rowM p c (if sqM p (disM p c) then p - 1 else p + 1)).1 == 0
theorem meq_nat {p a b : Nat} (h : a % p = b % p) : MEq (p : Int) (a : Int) (b : Int) := by
  have h1 := Nat.div_add_mod a p
  have h2 := Nat.div_add_mod b p
  refine ⟨(a / p : Nat) - (b / p : Nat), ?_⟩
  rw [← h1, ← h2, h]
  simp only [Int.natCast_add, Int.natCast_mul]
  have e1 : ((p * (a / p) + b % p) / p : Nat) = a / p := by rw [← h, h1]
  have e2 : ((p * (b / p) + b % p) / p : Nat) = b / p := by rw [h2]
  rw [e1, e2]; grind
end Mine

end

section
set_option maxRecDepth 100000
set_option autoImplicit false
set_option linter.unusedVariables false
namespace Mine
open PySem
theorem nat_of_meq {p x y : Nat} (h : MEq (p : Int) (x : Int) (y : Int)) : x % p = y % p := by
  have := h.eq
  rw [Int.fmod_eq_emod_of_nonneg _ (by omega), Int.fmod_eq_emod_of_nonneg _ (by omega)] at this
  omega
end Mine

end

section
set_option maxRecDepth 100000
set_option autoImplicit false
set_option linter.unusedVariables false
set_option Elab.async false
set_option maxHeartbeats 4000000
open PySem PySem.W PyProof.Rows PySem.Calls
namespace Mine
open PyProof.Rows.LCg
section
variable {S : Sx} {c : Cx} {env : Env} {σ : St} {n : Nat} {W : Wd} {m : Str → Option Value} {s : Shared}
theorem VRs.ints : ∀ {ns : List Int} {xs : List Value}, VRs W (ns.map V.int) xs → IntsAre xs ns
  | [], _, .nil => .nil
  | i :: r, _, .cons h h' => by cases h; exact .cons _ _ (VRs.ints h')
theorem cmp_eqL (O : Ok S c n) (hn : 10 ≤ n) {i j : Nat} {ns ms : List Int} {P : V → St → Prop} (hi : σ.ls[i]? = some (ns.map V.int)) (hj : σ.ls[j]? = some (ms.map V.int)) (h : P (.bool (decide (ns = ms))) σ) : CmpS S c .Eq (.lst i) (.lst j) σ P := fun W x y hx hy m s Q r q => by
  obtain ⟨a, xs, c1, rfl, a1, a2, a3⟩ := r.lstAt hi hx
  obtain ⟨b, ys, c2, rfl, b1, b2, b3⟩ := r.lstAt hj hy
  have := O.hu
  exact ke_eq_ints (isL_of a2 r) (isL_of b2 r) a3.ints b3.ints (by omega) (q _ _ σ W m s h r .refl .bool)
theorem cmp_neL (O : Ok S c n) (hn : 10 ≤ n) {i j : Nat} {ns ms : List Int} {P : V → St → Prop} (hi : σ.ls[i]? = some (ns.map V.int)) (hj : σ.ls[j]? = some (ms.map V.int)) (h : P (.bool (!decide (ns = ms))) σ) : CmpS S c .NotEq (.lst i) (.lst j) σ P := fun W x y hx hy m s Q r q => by
  obtain ⟨a, xs, c1, rfl, a1, a2, a3⟩ := r.lstAt hi hx
  obtain ⟨b, ys, c2, rfl, b1, b2, b3⟩ := r.lstAt hj hy
  have := O.hu
  exact ke_ne_ints (isL_of a2 r) (isL_of b2 r) a3.ints b3.ints (by omega) (q _ _ σ W m s h r .refl .bool)
theorem call_pow3S {a b e : Int} {P : V → St → Prop} (hb : 0 ≤ b) (hm : 1 < e) (h : P (.int ((Builtin.powMod (a % e).toNat b.toNat e.toNat : Nat) : Int)) σ) : CallS S c (.old (.builtin "pow")) [.int a, .int b, .int e] σ P := fun W x xs hx hxs m s Q r q => by
  cases hx
  cases hxs with
  | cons h1 z => cases z with
    | cons h2 z => cases z with
      | cons h3 z =>
        cases z; cases h1; cases h2; cases h3
        exact call_pow3 hb hm fun u tk => q _ _ σ W m _ h (r.tok tk) .refl .int
end

structure KdOk (S : Sx) (q cc na kd : Int) (el : Int → Int → V) : Prop where
  nl : ∀ u v, noLst (el u v) = true
  no : ∀ u v, notOld (el u v) = true
  made : ∀ (c : Cx) (σ : St) (n : Nat) (a u v ci : Int) (j : Nat) (P : V → St → Prop), c.fz = false → c.frz = [] → Ok S c n → 100 ≤ n → σ.ls[j]? = some [.int u, .int v] → -1000000 < u → u < 1000000 → -1000000 < v → v < 1000000 → Int.fmod ci q = cc → Int.fmod (0 - a) q = na → P (el (Int.fmod u q) (Int.fmod v q)) σ → CallS S c (.old (.ref 474)) [.lst j, .int a, .int ci, .int q, .int kd] σ P
  mul : ∀ (c : Cx) (σ : St) (n : Nat) (u0 u1 v0 v1 : Int) (P : V → St → Prop), c.fz = false → c.frz = [] → Ok S c n → 110 ≤ n → InQ q (u0, u1) → InQ q (v0, v1) → P (el (Int.fmod (u0 * v0 - u1 * v1 * cc) q) (Int.fmod (u0 * v1 + u1 * v0 - u1 * v1 * na) q)) σ → BinS S c .Mult (el u0 u1) (el v0 v1) σ P
  add : ∀ (c : Cx) (σ : St) (n : Nat) (u0 u1 v0 v1 : Int) (P : V → St → Prop), c.fz = false → c.frz = [] → Ok S c n → 110 ≤ n → InQ q (u0, u1) → InQ q (v0, v1) → P (el (Int.fmod (u0 + v0) q) (Int.fmod (u1 + v1) q)) σ → BinS S c .Add (el u0 u1) (el v0 v1) σ P
  pow : ∀ (c : Cx) (σ : St) (n : Nat) (u0 u1 e : Int) (k : Nat) (P : V → St → Prop), c.fz = false → c.frz = [] → Ok S c n → 350 ≤ n → InQ q (u0, u1) → e = k → k < 200 → (∀ z0 z1, InQ q (z0, z1) → CP q (z0, z1) (powE cc na k (u0, u1)) → P (el z0 z1) σ) → BinS S c .Pow (el u0 u1) (.int e) σ P
  inv : ∃ f : Addr, keepIn S.K (.ref f) = true ∧ (∀ (c : Cx) (σ : St) (n : Nat) (u v : Int) (P : V → List V → Prop), Ok S c n → P (.old (.ref f)) [el u v] → MthS S c (el u v) (Str.ofString "inv") σ P) ∧
    ∀ (c : Cx) (σ : St) (n : Nat) (P : V → St → Prop), c.fz = false → c.frz = [] → Ok S c n → 130 ≤ n → cc ≠ 0 → P (el (Int.fmod (0 - na * pfi cc q) q) (Int.fmod (0 - 1 * pfi cc q) q)) σ → CallS S c (.old (.ref f)) [el 0 1] σ P
  plain : ∀ (c : Cx) (σ : St) (n : Nat) (u v : Int) (P : V → St → Prop), c.fz = false → Ok S c n → 60 ≤ n → InQ q (u, v) → NewK σ [.int (Int.fmod u q), .int (Int.fmod v q)] P → CallS S c (.old (.ref 479)) [el u v, .int q] σ P
end Mine

end

section
set_option maxRecDepth 100000
set_option autoImplicit false
set_option linter.unusedVariables false
set_option linter.unusedSectionVars false
namespace Mine
open PySem

def PfiOk (q : Int) : Prop := ∀ x, 0 < x → x < q → MEq q (x * pfi x q) 1
theorem meq_mulL {q a b : Int} (c : Int) (h : MEq q a b) : MEq q (c * a) (c * b) := MEq.rfl'.mul h
theorem not_meq01 {q : Int} (hq : 1 < q) : ¬ MEq q 0 1 := fun h => by
  have := meq_in h (Int.le_refl 0) (by omega) (by decide) hq
  omega
theorem pfi_ne {q v : Int} (hq : 1 < q) (hp : PfiOk q) (v0 : 0 ≤ v) (v1 : v < q) (vn : v ≠ 0) : pfi v q ≠ 0 := fun h => by
  have := hp v (by omega) v1
  rw [h, Int.mul_zero] at this
  exact not_meq01 hq this
theorem pfi_rng {q : Int} (hq : 0 < q) (v : Int) : 0 ≤ pfi v q ∧ pfi v q < q := by
  unfold pfi
  split
  · omega
  · exact ⟨fm_lo _ hq, fm_hi _ hq⟩
theorem pfi_hy {q v : Int} (hp : PfiOk q) (v0 : 0 ≤ v) (v1 : v < q) (vn : v ≠ 0) : Int.fmod (1 - v * pfi v q) q = 0 := by
  have h := (MEq.rfl' (q := q) (a := 1)).sub (hp v (by omega) v1)
  have : (1 : Int) - 1 = 0 := by decide
  rw [this] at h
  exact h.zero
theorem pfi1 {q : Int} (hq : 1 < q) (hp : PfiOk q) : MEq q (pfi 1 q) 1 := by
  have := hp 1 (by decide) hq
  rwa [Int.one_mul] at this
section
variable {q u v : Int} (hq : 1 < q) (hp : PfiOk q) (u0 : 0 ≤ u) (u1 : u < q) (hN : ¬ MEq q (u * u + v * v) 0)
include hq hp u0 u1 hN
omit hq in
theorem inv_v0 (hv : v = 0) : MEq q (u * pfi u q) 1 := by
  refine hp u ?_ u1
  have : u ≠ 0 := fun h => hN (by rw [h, hv]; exact ⟨0, by omega⟩)
  omega
variable (v0 : 0 ≤ v) (v1 : v < q) (vn : v ≠ 0)
include v0 v1 vn
omit u0 u1 hN hq in
theorem inv_s0 {s g : Int} (hs : s = Int.fmod (0 - u * pfi v q) q) (hg : g = Int.fmod (0 - pfi v q) q) (sn : s = 0) : MEq q (u * 0 - v * g) 1 ∧ MEq q (u * g + v * 0) 0 := by
  have h1 := hp v (by omega) v1
  have h2 : MEq q g (0 - pfi v q) := by rw [hg]; exact .fmr
  have h3 : MEq q (0 - u * pfi v q) 0 := by
    have z : MEq q (0 - u * pfi v q) (Int.fmod (0 - u * pfi v q) q) := MEq.symm .fmr
    rw [← hs, sn] at z
    exact z
  constructor
  · have := (MEq.rfl' (q := q) (a := u * 0)).sub (meq_mulL v h2)
    exact (this.trans ⟨0, by grind⟩ : MEq q _ (v * pfi v q)).trans h1
  · have := (meq_mulL u h2).add (MEq.rfl' (q := q) (a := v * 0))
    exact (this.trans ⟨0, by grind⟩ : MEq q _ (0 - u * pfi v q)).trans h3
variable {s g t : Int} (hs : s = Int.fmod (0 - u * pfi v q) q) (hg : g = Int.fmod (0 - pfi v q) q) (ht : Int.fmod (v * pfi s q) q = t) (s0 : 0 ≤ s) (s1 : s < q) (sn : s ≠ 0)
include hs hg ht s0 s1 sn
theorem inv_st : Int.fmod (v - s * t) q = 0 := by
  have h1 := hp s (by omega) s1
  have h2 : MEq q t (v * pfi s q) := by rw [← ht]; exact .fmr
  have h3 := (MEq.rfl' (q := q) (a := v)).sub (meq_mulL s h2)
  have h4 := meq_mulL v h1
  have e : s * (v * pfi s q) = v * (s * pfi s q) := by grind
  rw [e] at h3
  have h5 := h3.trans ((MEq.rfl' (q := q) (a := v)).sub h4)
  exact (h5.trans ⟨0, by grind⟩ : MEq q _ 0).zero
theorem inv_D : Int.fmod (u - t) q ≠ 0 := by
  intro hz
  have hz : MEq q (u - t) 0 := (MEq.symm .fmr : MEq q (u - t) (Int.fmod (u - t) q)).trans (by rw [hz]; exact .rfl')
  have h1 := hp v (by omega) v1
  have h2 := hp s (by omega) s1
  have h3 : MEq q s (0 - u * pfi v q) := by rw [hs]; exact .fmr
  have h4 : MEq q t (v * pfi s q) := by rw [← ht]; exact .fmr
  have g1 := meq_mulL (v * s) hz
  have g2 := (meq_mulL (v * u) h3)
  have g3 := meq_mulL (v * s) h4
  have g4 := meq_mulL (v * v) h2
  have g5 := meq_mulL (u * u) h1
  have a1 : MEq q (v * s * u) (0 - u * u) := by
    have e1 : v * s * u = v * u * s := by grind
    have e2 : v * u * (0 - u * pfi v q) = 0 - u * u * (v * pfi v q) := by grind
    rw [e1]; rw [e2] at g2
    exact g2.trans (((MEq.rfl' (q := q) (a := 0)).sub g5).trans ⟨0, by grind⟩)
  have a2 : MEq q (v * s * t) (v * v) := by
    have e1 : v * s * (v * pfi s q) = v * v * (s * pfi s q) := by grind
    rw [e1] at g3
    exact g3.trans (g4.trans ⟨0, by grind⟩)
  have a3 := a1.sub a2
  have e3 : v * s * u - v * s * t = v * s * (u - t) := by grind
  rw [e3] at a3
  have a4 := a3.symm.trans g1
  apply hN
  have a5 := (MEq.rfl' (q := q) (a := 0)).sub a4
  exact (MEq.trans (⟨0, by grind⟩ : MEq q (u * u + v * v) (0 - (0 - u * u - v * v))) a5).trans ⟨0, by grind⟩
theorem inv_fin {x y : Int} (hx : MEq q x (1 * pfi (Int.fmod (u - t) q) q)) (hy : MEq q y ((0 - g * t) * pfi (Int.fmod (u - t) q) q)) : MEq q (u * x - v * y) 1 ∧ MEq q (u * y + v * x) 0 := by
  have hD := inv_D hq hp u0 u1 hN v0 v1 vn hs hg ht s0 s1 sn
  have d0 := fm_lo (u - t) (q := q) (by omega)
  have d1 := fm_hi (u - t) (q := q) (by omega)
  have hd : MEq q (Int.fmod (u - t) q) (u - t) := .fmr
  have hdd := hp _ (by omega) d1
  generalize pfi (Int.fmod (u - t) q) q = r at *
  generalize Int.fmod (u - t) q = D at *
  have h1 := hp v (by omega) v1
  have h2 := hp s (by omega) s1
  have h3 : MEq q s (0 - u * pfi v q) := by rw [hs]; exact .fmr
  have h4 : MEq q t (v * pfi s q) := by rw [← ht]; exact .fmr
  have h5 : MEq q g (0 - pfi v q) := by rw [hg]; exact .fmr
  constructor
  · have a1 := (meq_mulL u hx).sub (meq_mulL v hy)
    have a2 : MEq q (v * g) (0 - 1) := (meq_mulL v h5).trans (MEq.trans (⟨0, by grind⟩ : MEq q (v * (0 - pfi v q)) (0 - v * pfi v q)) ((MEq.rfl' (q := q) (a := 0)).sub h1))
    have a3 := meq_mulL r ((MEq.rfl' (q := q) (a := u)).add (a2.mul (MEq.rfl' (q := q) (a := t))))
    have e1 : u * (1 * r) - v * ((0 - g * t) * r) = r * (u + v * g * t) := by grind
    rw [e1] at a1
    have a4 := a1.trans a3
    have a5 := (meq_mulL r hd.symm)
    have e2 : r * (u + (0 - 1) * t) = r * (u - t) := by grind
    rw [e2] at a4
    have e3 : r * D = D * r := by grind
    rw [e3] at a5
    exact (a4.trans a5).trans hdd
  · have a1 := (meq_mulL u hy).add (meq_mulL v hx)
    have a2 : MEq q (u * g) s := (meq_mulL u h5).trans (MEq.trans (⟨0, by grind⟩ : MEq q (u * (0 - pfi v q)) (0 - u * pfi v q)) h3.symm)
    have a3 : MEq q (s * t) v := (meq_mulL s h4).trans (MEq.trans (⟨0, by grind⟩ : MEq q (s * (v * pfi s q)) (v * (s * pfi s q))) ((meq_mulL v h2).trans ⟨0, by grind⟩))
    have e1 : u * ((0 - g * t) * r) + v * (1 * r) = r * (v - u * g * t) := by grind
    rw [e1] at a1
    have a4 := meq_mulL r ((MEq.rfl' (q := q) (a := v)).sub ((a2.mul (MEq.rfl' (q := q) (a := t))).trans a3))
    exact (a1.trans a4).trans ⟨0, by grind⟩
end
theorem inv_res {q u v x y x' y' : Int} (hx : MEq q x x') (hy : MEq q y y') (h : MEq q (u * x' - v * y') 1 ∧ MEq q (u * y' + v * x') 0) : MEq q (u * x - v * y) 1 ∧ MEq q (u * y + v * x) 0 :=
  ⟨((meq_mulL u hx).sub (meq_mulL v hy)).trans h.1, ((meq_mulL u hy).add (meq_mulL v hx)).trans h.2⟩
theorem inv_v0' {q u : Int} (h : MEq q (u * pfi u q) 1) : MEq q (u * Int.fmod (1 * pfi u q) q - 0 * Int.fmod (0 * pfi u q) q) 1 ∧ MEq q (u * Int.fmod (0 * pfi u q) q + 0 * Int.fmod (1 * pfi u q) q) 0 := by
  refine inv_res (x' := pfi u q) (y' := 0) ?_ ?_ ⟨?_, ?_⟩
  · rw [Int.one_mul]; exact .fmr
  · rw [Int.zero_mul]; exact .fmr
  · rw [Int.zero_mul, Int.sub_zero]; exact h
  · rw [Int.mul_zero, Int.zero_mul]; exact .rfl'
end Mine

end

section
set_option maxRecDepth 100000
set_option autoImplicit false
set_option linter.unusedVariables false
namespace Mine
open PySem
def prime2 : List Nat := [3, 5, 7, 11, 13, 17, 19, 23, 29, 31]
theorem chk2_pfi : (prime2.all fun p => (List.range p).all fun c => c == 0 || Int.fmod ((c : Int) * pfi (c : Int) (p : Int)) (p : Int) == 1) = true := by decide +kernel
theorem pfiOk2 {p : Nat} (hp : p ∈ prime2) : PfiOk (p : Int) := fun x x0 x1 => by
  have h := List.all_eq_true.mp chk2_pfi p hp
  have h2 := List.all_eq_true.mp h x.toNat (List.mem_range.mpr (by omega))
  have e : ((x.toNat : Nat) : Int) = x := by omega
  rw [e] at h2
  have h3 : (x.toNat == 0) = false := by rw [beq_eq_false_iff_ne]; omega
  rw [h3, Bool.false_or] at h2
  have h4 : Int.fmod (x * pfi x (p : Int)) (p : Int) = 1 := eq_of_beq h2
  have : MEq (p : Int) (x * pfi x (p : Int)) (Int.fmod (x * pfi x (p : Int)) (p : Int)) := MEq.symm .fmr
  rw [h4] at this
  exact this

theorem chk2_pow : (prime2.all fun p => (List.range p).all fun t => (1 + t * t) % p == 0 || ((1 + t * t) * Builtin.powMod ((1 + t * t) % p) (p - 2) p) % p == 1) = true := by decide +kernel
theorem chk2_lt : (prime2.all fun p => (List.range p).all fun t => decide (Builtin.powMod ((1 + t * t) % p) (p - 2) p < p)) = true := by decide +kernel
theorem prime2_rng {p : Nat} (hp : p ∈ prime2) : 2 < p ∧ p < 32 := by
  have : (prime2.all fun p => decide (2 < p ∧ p < 32)) = true := by decide
  exact of_decide_eq_true (List.all_eq_true.mp this p hp)
end Mine

end

section
set_option maxRecDepth 100000
set_option autoImplicit false
set_option linter.unusedVariables false
namespace Mine
open PySem
theorem inv_same {p c x y : Int} (h : MEq p (c * x) 1) (h' : MEq p (c * y) 1) : MEq p x y := by
  have g1 := meq_mulL x h'
  have g2 := meq_mulL y h
  have e : x * (c * y) = y * (c * x) := by grind
  rw [e, Int.mul_one] at g1
  rw [Int.mul_one] at g2
  exact g1.symm.trans g2

theorem told_pt {p t v z0 z1 r : Int} (hv : MEq p v (0 - t)) (h : MEq p (1 * z0 - v * z1) 1 ∧ MEq p (1 * z1 + v * z0) 0) (hr : MEq p ((1 + t * t) * r) 1) :
    MEq p (1 * z0 - t * z1 * 1) ((1 - t * t) * r) ∧ MEq p (1 * z1 + t * z0 - t * z1 * 0) (2 * t * r) := by
  have A : MEq p (z0 + t * z1) 1 := by
    have := ((MEq.rfl' (q := p) (a := 1 * z0)).sub (hv.mul (MEq.rfl' (q := p) (a := z1)))).symm.trans h.1
    exact (MEq.trans (⟨0, by grind⟩ : MEq p (z0 + t * z1) (1 * z0 - (0 - t) * z1)) this)
  have B : MEq p (z1 - t * z0) 0 := by
    have := ((MEq.rfl' (q := p) (a := 1 * z1)).add (hv.mul (MEq.rfl' (q := p) (a := z0)))).symm.trans h.2
    exact (MEq.trans (⟨0, by grind⟩ : MEq p (z1 - t * z0) (1 * z1 + (0 - t) * z0)) this)
  have C : MEq p ((1 + t * t) * z0) 1 := by
    have := A.sub (meq_mulL t B)
    exact (MEq.trans (⟨0, by grind⟩ : MEq p ((1 + t * t) * z0) (z0 + t * z1 - t * (z1 - t * z0))) this).trans ⟨0, by grind⟩
  have D := inv_same C hr
  have F : MEq p z1 (t * r) := by
    have := B.add (meq_mulL t D)
    exact (MEq.trans (⟨0, by grind⟩ : MEq p z1 (z1 - t * z0 + t * z0)) this).trans ⟨0, by grind⟩
  constructor
  · exact (MEq.trans (⟨0, by grind⟩ : MEq p (1 * z0 - t * z1 * 1) (z0 - t * z1)) (D.sub (meq_mulL t F))).trans ⟨0, by grind⟩
  · exact (MEq.trans (⟨0, by grind⟩ : MEq p (1 * z1 + t * z0 - t * z1 * 0) (z1 + t * z0)) (F.add (meq_mulL t D))).trans ⟨0, by grind⟩
end Mine

end

section
set_option maxRecDepth 100000
set_option autoImplicit false
set_option linter.unusedVariables false
namespace Mine
open PySem
theorem slope_arg (p t : Nat) (hp : 2 < p) : ((1 + (t : Int) * t) % (p : Int)).toNat = (1 + t * t) % p ∧ ((p : Int) - 2).toNat = p - 2 ∧ (p : Int).toNat = p := by
  refine ⟨?_, by omega, by omega⟩
  have : (1 + (t : Int) * t) % (p : Int) = (((1 + t * t) % p : Nat) : Int) := by push_cast; rfl
  rw [this, Int.toNat_natCast]
theorem slope_inv {p t : Nat} (hp : p ∈ prime2) (ht : t < p) (hn : (1 + t * t) % p ≠ 0) :
    MEq (p : Int) ((1 + (t : Int) * t) * ((Builtin.powMod ((1 + t * t) % p) (p - 2) p : Nat) : Int)) 1 ∧ Builtin.powMod ((1 + t * t) % p) (p - 2) p < p := by
  obtain ⟨p2, p32⟩ := prime2_rng hp
  have h1 := List.all_eq_true.mp (List.all_eq_true.mp chk2_pow p hp) t (List.mem_range.mpr ht)
  have h2 := List.all_eq_true.mp (List.all_eq_true.mp chk2_lt p hp) t (List.mem_range.mpr ht)
  have e1 : ((1 + t * t) % p == 0) = false := by rw [beq_eq_false_iff_ne]; exact hn
  rw [e1, Bool.false_or, beq_iff_eq] at h1
  refine ⟨?_, of_decide_eq_true h2⟩
  have := meq_nat (p := p) (a := (1 + t * t) * Builtin.powMod ((1 + t * t) % p) (p - 2) p) (b := 1) (by rw [h1, Nat.mod_eq_of_lt (by omega)])
  simpa using this
end Mine

end

section
set_option maxRecDepth 100000
set_option autoImplicit false
set_option linter.unusedVariables false
namespace Mine
open PySem

def ptr (p t : Nat) : Nat := Builtin.powMod ((1 + t * t) % p) (p - 2) p
def pt (p t : Nat) : Int × Int := (Int.fmod ((1 - (t : Int) * t) * (ptr p t : Int)) p, Int.fmod (2 * (t : Int) * (ptr p t : Int)) p)
def slopesN (p : Nat) : List Nat := (List.range p).filter fun t => (1 + t * t) % p != 0
def manyN (p : Nat) : Nat := if p % 4 = 1 then p - 1 else p + 1
def ptsN (p : Nat) : List (Int × Int) := (slopesN p).map (pt p) ++ [((p : Int) - 1, 0)]
def mulM (q : Int) (x y : Int × Int) : Int × Int := (Int.fmod (x.1 * y.1 - x.2 * y.2 * 1) q, Int.fmod (x.1 * y.2 + x.2 * y.1 - x.2 * y.2 * 0) q)
def powM (q : Int) : Nat → Int × Int → Int × Int
  | 0, _ => (1, 0)
  | k + 1, x => mulM q (powM q k x) x
theorem powM_cp (q : Int) (x : Int × Int) : ∀ k, CP q (powM q k x) (powE 1 0 k x)
  | 0 => .refl _
  | k + 1 => CP.trans (⟨.fmr, .fmr⟩ : CP q (mulM q (powM q k x) x) (mulE 1 0 (powM q k x) x)) ((powM_cp q x k).mul (.refl x))
theorem powM_in {q : Int} (hq : 1 < q) (x : Int × Int) : ∀ k, InQ q (powM q k x)
  | 0 => ⟨⟨by show (0 : Int) ≤ 1; decide, hq⟩, Int.le_refl 0, by show (0 : Int) < q; omega⟩
  | k + 1 => ⟨⟨fm_lo _ (by omega), fm_hi _ (by omega)⟩, fm_lo _ (by omega), fm_hi _ (by omega)⟩
theorem powM_eq {q : Int} (hq : 1 < q) {k : Nat} {x z : Int × Int} (h : InQ q z) (hc : CP q z (powE 1 0 k x)) : z = powM q k x := by
  have h2 := powM_in hq x k
  have h3 := hc.trans (powM_cp q x k).symm
  exact Prod.ext (meq_in h3.1 h.1.1 h.1.2 h2.1.1 h2.1.2) (meq_in h3.2 h.2.1 h.2.2 h2.2.1 h2.2.2)
theorem slopesN_mem {p t : Nat} (h : t ∈ slopesN p) : t < p ∧ (1 + t * t) % p ≠ 0 := by
  unfold slopesN at h
  rw [List.mem_filter] at h
  exact ⟨List.mem_range.mp h.1, by simpa using h.2⟩

def due0 (p t u : Nat) : Int × Int :=
  if Int.fmod (1 - (t : Int) * u) p = 0 then ((p : Int) - 1, 0) else pt p (Int.fmod (((t : Int) + u) * ((Builtin.powMod (Int.fmod (1 - (t : Int) * u) p % (p : Int)).toNat ((p : Int) - 2).toNat (p : Int).toNat : Nat) : Int)) p).toNat
def chk0 (p : Nat) : Bool := (slopesN p).all fun t => (slopesN p).all fun u => mulM p (pt p t) (pt p u) == due0 p t u
theorem chk0_ok : (prime2.all chk0) = true := by decide +kernel
theorem way0 {p t u : Nat} (hp : p ∈ prime2) (ht : t ∈ slopesN p) (hu : u ∈ slopesN p) : mulM p (pt p t) (pt p u) = due0 p t u :=
  eq_of_beq (List.all_eq_true.mp (List.all_eq_true.mp (List.all_eq_true.mp chk0_ok p hp) t ht) u hu)
theorem chkc_ok : (prime2.all fun p => (slopesN p).all fun t => Int.fmod ((pt p t).1 * (pt p t).1 + (pt p t).2 * (pt p t).2) (p : Int) == 1) = true := by decide +kernel
theorem circ {p t : Nat} (hp : p ∈ prime2) (ht : t ∈ slopesN p) : MEq (p : Int) ((pt p t).1 * (pt p t).1 + (pt p t).2 * (pt p t).2) 1 := by
  have h : Int.fmod ((pt p t).1 * (pt p t).1 + (pt p t).2 * (pt p t).2) (p : Int) = 1 := eq_of_beq (List.all_eq_true.mp (List.all_eq_true.mp chkc_ok p hp) t ht)
  exact (MEq.symm .fmr).trans (by rw [h]; exact .rfl')
theorem chk2_ok : (prime2.all fun p => (slopesN p).all fun t => powM p (manyN p) (pt p t) == (1, 0)) = true := by decide +kernel
theorem way2N {p t : Nat} (hp : p ∈ prime2) (ht : t ∈ slopesN p) : powM p (manyN p) (pt p t) = (1, 0) :=
  eq_of_beq (List.all_eq_true.mp (List.all_eq_true.mp chk2_ok p hp) t ht)
theorem way2b {p t : Nat} (hp : p ∈ prime2) (ht : t ∈ slopesN p) (k : Nat) : powM p (manyN p + k) (pt p t) = powM p k (pt p t) := by
  have hq : (1 : Int) < p := by have := (prime2_rng hp).1; omega
  refine powM_eq hq (powM_in hq _ _) ?_
  have h1 := powM_cp p (pt p t) (manyN p + k)
  rw [powE_add] at h1
  have h2 : CP (p : Int) (1, 0) (powE 1 0 (manyN p) (pt p t)) := by
    have := powM_cp p (pt p t) (manyN p)
    rwa [way2N hp ht] at this
  have h3 := h1.trans (h2.symm.mul (.refl (powE 1 0 k (pt p t))))
  rwa [mulE_one] at h3
def prime5 : List Nat := [3, 5, 7, 11, 13]
theorem prime5_2 {p : Nat} (h : p ∈ prime5) : p ∈ prime2 := by
  have : (prime5.all fun p => prime2.contains p) = true := by decide
  exact List.contains_iff_mem.mp (List.all_eq_true.mp this p h)
theorem chk4_ok : (prime5.all fun p => (List.range 12).all fun c => ((ptsN p).filter fun z => powM p (1 + c) z == (1, 0)).length == Nat.gcd (1 + c) (manyN p)) = true := by decide +kernel
theorem way4N {p c : Nat} (hp : p ∈ prime5) (hc : c < 12) : ((ptsN p).filter fun z => powM p (1 + c) z == (1, 0)).length = Nat.gcd (1 + c) (manyN p) :=
  eq_of_beq (List.all_eq_true.mp (List.all_eq_true.mp chk4_ok p hp) c (List.mem_range.mpr hc))
theorem ptr_lt {p t : Nat} (hp : p ∈ prime2) (ht : t < p) : ptr p t < p := of_decide_eq_true (List.all_eq_true.mp (List.all_eq_true.mp chk2_lt p hp) t (List.mem_range.mpr ht))
theorem pt_in {p t : Nat} (hp : p ∈ prime2) : InQ (p : Int) (pt p t) := by
  have := (prime2_rng hp).1
  exact ⟨⟨fm_lo _ (by omega), fm_hi _ (by omega)⟩, fm_lo _ (by omega), fm_hi _ (by omega)⟩
theorem manyN_lt {p : Nat} (hp : p ∈ prime2) : manyN p < 34 ∧ 1 < manyN p := by
  have : (prime2.all fun p => decide (manyN p < 34 ∧ 1 < manyN p)) = true := by decide
  exact of_decide_eq_true (List.all_eq_true.mp this p hp)
theorem slopesN_len {p : Nat} (hp : p ∈ prime2) : 0 < (slopesN p).length ∧ (slopesN p).length < 32 := by
  have : (prime2.all fun p => decide (0 < (slopesN p).length ∧ (slopesN p).length < 32)) = true := by decide +kernel
  exact of_decide_eq_true (List.all_eq_true.mp this p hp)
end Mine

end

section
open PySem PySem.W PyProof.Rows PySem.Calls
set_option maxRecDepth 100000
set_option Elab.async false
namespace Mine
local macro_rules | `(tactic| k_room) => `(tactic| first | ((try simp only [depth_under_make, depth_under_kw, depth_in1, depth_deeper, depth_caller]); omega) | ktr_room)
local macro_rules | `(tactic| k_units) => `(tactic| first | ((try simp only [units_under_make, units_in1, units_deeper, Around.mark_units, units_caller]); omega) | ((have hcL9 := cLine_is); (try simp only [units_under_make, units_in1, units_deeper, Around.mark_units, units_caller]); omega) | ktr_units)
local macro_rules | `(tactic| k_enter) => `(tactic| first
  | (refine' Mine.enterR ?k1 ?k2 ?k3 ?k4 ?k5 ?kA ?kF ?kK ?k6 ?k7 ?k8 ?k9 ?kB ?_ ?c2 ?c3 ?c4 ?c5; (case kA => exact rfl); (case kF => first | exact rfl | assumption); (case kK => first | exact rfl | assumption); (case k1 => k_asm); (case k2 => k_asm); (case k3 => k_asm); (case k4 => k_asm); (case k5 => k_asm); (case k6 => k_is); (case k7 => k_is); (case k8 => k_room); (case k9 => first | exact BindsTo.of_eq rfl | exact binds_K (by k_in) rfl (by k_is) rfl rfl rfl | fail "k_enter: no rule for these arguments"); (case c5 => decide); (case kB => exact locs rfl); (case c2 => exact rfl); (case c3 => exact rfl); (case c4 => exact rfl); k_whole; intro g' L' h' tk' FG' F' N' B' X' T' l1; (try k_lt l1); (try dsimp only); (try k_lift B'); (try k_fold))
  | (refine' Mine.enterRC ?k1 ?k2 ?k3 ?k4 ?k5 ?kA ?kF ?kK ?k6 ?k7 ?k8 ?k9 ?kB ?kD ?_ ?c2 ?c3 ?c4; (case kA => exact rfl); (case kF => first | exact rfl | assumption); (case kK => first | exact rfl | assumption); (case k1 => k_asm); (case k2 => k_asm); (case k3 => k_asm); (case k4 => k_asm); (case k5 => k_asm); (case k6 => k_is); (case k7 => k_is); (case k8 => k_room); (case k9 => first | exact BindsTo.of_eq rfl | exact binds_K (by k_in) rfl (by k_is) rfl rfl rfl | fail "k_enter: no rule for these arguments"); (case kB => exact rfl); (case kD => decide +kernel); (case c2 => exact rfl); (case c3 => exact rfl); (case c4 => exact rfl); k_whole; intro g' L' h' tk' cells' FG' F' N' Y' B' X' T' l1; (try k_lt l1); k_cells Y'; (try simp only [List.cons_append, List.nil_append] at N'); (try dsimp only); (try k_lift B'); (try k_fold)))
local macro_rules | `(tactic| walk_at "binaryOp Div ref ref") => `(tactic| (k_here; (with_reducible show wpAny _ _ (binaryOp _ (Value.ref _) (Value.ref _)) _ _ _); k_dflt (refine' binop_K ?k1 ?k2 ?k3 ?k4 ?k5 ?k6 ?k7 ?_; (case k1 => k_asm); (case k2 => k_asm); (case k3 => k_inst); (case k4 => k_typeOf); (case k5 => k_is); (case k6 => k_is); (case k7 => k_is); k_whole)))
local macro_rules | `(tactic| walk_at "call type:int") => `(tactic| (k_here; (with_reducible show wpAny _ _ (call (Value.type "int") [Value.ref _]) _ _ _); k_dflt (refine' Mine.int_K ?F ?X ?I ?hS ?hF ?_; (case F => k_asm); (case X => k_asm); (case I => k_inst); (case hS => k_is); (case hF => k_is); k_whole)))
local macro_rules | `(tactic| walk_at "binaryOp Sub int ref") => `(tactic| (k_here; (with_reducible show wpAny _ _ (binaryOp Operator.Sub (Value.int _ _) (Value.ref _)) _ _ _); k_dflt (refine' Mine.bin_IR ?F ?X ?I ?hC ?hS ?hR ?hF ?hU ?hfl ?sl ?hd ?_; (case F => k_asm); (case X => k_asm); (case I => k_inst); (case hS => k_is); (case hR => k_is); (case hF => k_is); (case hC => k_is); (case hU => k_is); (case hfl => exact F.fills_int_sub); (case sl => exact F.slot_int_sub); (case hd => exact Mine.decl_sub (by k_inst) rfl); k_whole)))
local macro_rules | `(tactic| walk_at "binaryOp Div int ref") => `(tactic| (k_here; (with_reducible show wpAny _ _ (binaryOp Operator.Div (Value.int _ _) (Value.ref _)) _ _ _); k_dflt (refine' Mine.bin_IR ?F ?X ?I ?hC ?hS ?hR ?hF ?hU ?hfl ?sl ?hd ?_; (case F => k_asm); (case X => k_asm); (case I => k_inst); (case hS => k_is); (case hR => k_is); (case hF => k_is); (case hC => k_is); (case hU => k_is); (case hfl => exact F.fills_int_truediv); (case sl => exact F.slot_int_truediv); (case hd => exact Mine.decl_div (by k_inst) rfl); k_whole)))
local macro_rules | `(tactic| k_mem) => `(tactic| first | exact List.Mem.head _ | (refine Mine.mem_tl ?_; k_mem))
local macro_rules | `(tactic| walk_at "call type:tuple") => `(tactic| (k_here; (with_reducible show wpAny _ _ (call (Value.type "tuple") [Value.ref _]) _ _ _); k_dflt (refine' Mine.tup_same ?N ?h ?_; (case N => k_asm); (case h => k_mem); k_whole)))
local macro_rules | `(tactic| walk_at "subscriptTail") => `(tactic| (k_here; (with_reducible show wpAny _ _ (subscriptTail _ _ (Value.ref _) (Value.int _ _)) _ _ _); k_dflt (refine' item_tupleT ?t ?a ?b ?c ?d ?_; (case t => exact News.isTup (by k_asm) (by k_mem)); (case a => decide); (case b => decide); (case c => rfl); (case d => rfl); k_whole)))
local macro_rules | `(tactic| walk_at "subscriptTail Attribute") => `(tactic| (k_here; (with_reducible show wpAny _ _ (subscriptTail _ _ (Value.ref _) (Value.int _ _)) _ _ _); k_dflt (refine' item_tupleT ?t ?a ?b ?c ?d ?_; (case t => exact News.isTup (by k_asm) (by k_mem)); (case a => decide); (case b => decide); (case c => rfl); (case d => rfl); k_whole)))
local macro_rules | `(tactic| walk_at "subscriptTail Name") => `(tactic| (k_here; (with_reducible show wpAny _ _ (subscriptTail _ _ (Value.ref _) (Value.int _ _)) _ _ _); k_dflt (refine' item_tupleT ?t ?a ?b ?c ?d ?_; (case t => exact News.isTup (by k_asm) (by k_mem)); (case a => decide); (case b => decide); (case c => rfl); (case d => rfl); k_whole)))
local macro_rules | `(tactic| walk_at "getItem ref int") => `(tactic| (k_here; (with_reducible show wpAny _ _ (getItem (Value.ref _) (Value.int _ _)) _ _ _); k_dflt (refine' Mine.lget ?N ?m ?a ?b ?x ?_; (case N => k_asm); (case m => k_mem); (case a => decide); (case b => decide); (case x => rfl); k_whole)))
local macro_rules | `(tactic| walk_at "setItem ref int") => `(tactic| (k_here; (with_reducible show wpAny _ _ (setItem (Value.ref _) (Value.int _ _) _) _ _ _); k_dflt (refine' ki_set ?F ?N ?a ?b ?e ?U ?_; (case F => k_asm); (case N => k_asm); (case U => k_upd); (case a => decide); (case b => decide); (case e => rfl)); intro h' F' N'; (try dsimp only [List.nil_append, List.cons_append] at N'); (try k_sweep)))
local macro_rules | `(tactic| walk_at "RangeRest") => `(tactic| first | (with_reducible refine' RangeRest.succ ?_; intro t' h' tk' F' N') | (with_reducible refine' RangeRest.zero ?_; intro h' tk' F' N'))
local macro_rules | `(tactic| walk_at "eval Name") => `(tactic| (k_here; k_dflt (first
  | (refine' nameX_L ?F ?v ?_ ?a ?b; (case F => k_asm); (case a => rfl); (case b => rfl); (case v => rfl); k_whole)
  | (refine' nameX_C ?N ?c ?m ?d ?_ ?a ?b; (case a => rfl); (case b => rfl); (case N => k_asm); (case c => rfl); (case m => k_mem); (case d => k_asm); k_whole)
  | (refine' nameX_K ?F ?X ?T ?e ?_ ?a ?b; (case F => k_asm); (case X => k_asm); (case T => k_asm); (case a => rfl); (case b => rfl); (case e => k_is); k_whole)
  | (refine' nameX_B ?F ?X ?T ?e ?v ?n ?_ ?a ?b; (case F => k_asm); (case X => k_asm); (case T => k_asm); (case a => rfl); (case b => rfl); (case e => k_is); (case v => boot_fast); (case n => decide); k_whole))))
local macro_rules | `(tactic| k_all) => `(tactic| with_reducible assumption)
local macro_rules | `(tactic| walk_at "call builtin:len") => `(tactic| (k_here; (with_reducible show wpAny _ _ (call (Value.builtin "len") [Value.ref _]) _ _ _); k_dflt (refine' kst_len ?N ?m ?e ?f ?_; (case N => k_asm); (case m => k_mem); (case e => rfl); (case f => decide); k_whole)))


set_option maxHeartbeats 2000000 in
theorem fq_neq  {prog : Program} {w : World} {p : Program} {loose : List Str} {mg mb : Str → Option Value}
    {dp un : Nat} {gd : Option (List Code)} {env : Env} {outer : List Env} {A₀ : Around} {base h₀ : Heap} {L : Addr} {m : Str → Option Value} {news : List (Addr × Obj)} {s : Shared}
    {Q E : Value → Shared → Prop}
    (B : Below A₀ base outer h₀) (F : Fr h₀ L s.heap m) (X : (hd.heap_39 w.params).In h₀) (N : News h₀ L s.heap news) (T : TopRead p loose mg mb h₀) (hf : env.frame = some L) (hke : env.scope.kind = .function)
    (hdp : dp + 40 < recursionLimit) (hun : un + 400 < cLine)
    {q : Int} {x : Value} {n1 : Int} (hx : FqIn 335 news x n1 q) (hx0 : 0 ≤ n1) (hx1 : n1 < q) {y : Value} {n2 : Int} (hy : FqIn 335 news y n2 q) (hy0 : 0 ≤ n2) (hy1 : n2 < q) (ret : ∀ h' tk', Fr h₀ L h' m → News h₀ L h' news → Q (.bool (n1 != n2)) { s with heap := h', toks := tk' }) :
    wpAny (model prog w) { handled := none, depth := dp, frames := some (env :: outer), guards := gd, units := un } (compareOp .NotEq x y) Q E s := by
  obtain ⟨x, dx, hx1, hx2, tx1, tx2, tx3, tx4, rfl, hxa, hxb⟩ := hx
  obtain ⟨y, dy, hy1', hy2', ty1, ty2, ty3, ty4, rfl, hya, hyb⟩ := hy
  k_steps
  all_goals first | exact ret _ _ (by k_asm) (by k_asm) | exact ret _ _ (by k_asm) (news_tl (by k_asm))



end Mine

end

section
set_option maxRecDepth 100000
set_option autoImplicit false
set_option linter.unusedVariables false
set_option Elab.async false
set_option maxHeartbeats 4000000
open PySem PySem.W PyProof.Rows PySem.Calls
namespace Mine
set_option maxRecDepth 100000
set_option autoImplicit false
set_option linter.unusedVariables false
open PySem PySem.W PyProof.Rows PySem.Calls PyProof.Rows.LCg
section
variable {S : Sx} {c : Cx} {env : Env} {σ : St} {n : Nat} {W : Wd} {m : Str → Option Value} {s : Shared}
theorem zI_tupF (O : Ok S c n) {md : Bool} {elts : List Expr} {k : Nat} {p : Pos} {vs ws : List V} {K : List It → St → Prop} (hlen : vs.length = ws.length) (h : K (pairI (vs.zip ws)) σ) : CallI S c md (.Tuple elts k p) (.old (.type "zip")) [.tup vs, .tup ws] σ K := fun W x xs hx hxs m s Q r q => by
  cases hx
  cases hxs with
  | cons h1 h2 => cases h2 with
    | cons h2 h3 =>
    cases h3
    obtain ⟨a, ys, rfl, a1, a2, a3⟩ := h1.isTup r
    obtain ⟨b, zs, rfl, b1, b2, b3⟩ := h2.isTup r
    have la : a < s.heap.objs.size := Heap.lt_size (r.N _ a1).1
    have lb : b < s.heap.objs.size := Heap.lt_size (r.N _ b1).1
    have lL : c.L < s.heap.objs.size := r.F.ns.lt
    refine callZipT (xs := ys.toArray) (ys := zs.toArray) a3 b3 fun hz => ?_
    have up : ∀ d o, s.heap.get? d = some o → (zTup s.heap a b).get? d = some o := fun d o e => Heap.get?_push_of_some _ (Heap.get?_push_of_some _ (Heap.get?_push_of_some _ (Heap.get?_push_of_some _ (Heap.get?_push_of_some _ e))))
    have hTI : IsPair (zTup s.heap a b) (s.heap.objs.size + 2) (.ref s.heap.objs.size) (.ref (s.heap.objs.size + 1)) := by
      have := Heap.get?_push_size ((s.heap.push { cls := .type "tuple_iterator", data := .fields #[.ref a, .int 0 0] }).push { cls := .type "tuple_iterator", data := .fields #[.ref b, .int 0 0] }) (o := { cls := .type "tuple", data := .seq #[.ref s.heap.objs.size, .ref (s.heap.objs.size + 1)] }) rfl
      simp only [Heap.size_push] at this
      exact Heap.get?_push_of_some _ (Heap.get?_push_of_some _ this)
    have hTO : IsPair (zTup s.heap a b) (s.heap.objs.size + 3) .none .none := by
      have := Heap.get?_push_size (((s.heap.push { cls := .type "tuple_iterator", data := .fields #[.ref a, .int 0 0] }).push { cls := .type "tuple_iterator", data := .fields #[.ref b, .int 0 0] }).push { cls := .type "tuple", data := .seq #[.ref s.heap.objs.size, .ref (s.heap.objs.size + 1)] }) (o := { cls := .type "tuple", data := .seq #[.none, .none] }) rfl
      simp only [Heap.size_push] at this
      exact Heap.get?_push_of_some _ this
    have hI1 : (zTup s.heap a b).IsTupleIter s.heap.objs.size a 0 := ⟨_, Heap.get?_push_of_some _ (Heap.get?_push_of_some _ (Heap.get?_push_of_some _ (Heap.get?_push_of_some _ (Heap.get?_push_size _ rfl)))), rfl, rfl⟩
    have hI2 : (zTup s.heap a b).IsTupleIter (s.heap.objs.size + 1) b 0 := by
      have := Heap.get?_push_size (s.heap.push { cls := .type "tuple_iterator", data := .fields #[.ref a, .int 0 0] }) (o := { cls := .type "tuple_iterator", data := .fields #[.ref b, .int 0 0] }) rfl
      simp only [Heap.size_push] at this
      exact ⟨_, Heap.get?_push_of_some _ (Heap.get?_push_of_some _ (Heap.get?_push_of_some _ this)), rfl, rfl⟩
    have D1 := drawsT (prog := S.prog) (w := S.w) (A := c.A.in1) O.hh s.heap.objs.size a (Nat.ne_of_lt la) ys.toArray
    have D2 := drawsT (prog := S.prog) (w := S.w) (A := c.A.in1) O.hh (s.heap.objs.size + 1) b (Nat.ne_of_lt (Nat.lt_succ_of_lt lb)) zs.toArray
    have e1 := a2.length
    have e2 := b2.length
    have e1' : ys.toArray.size = vs.length := by rw [← e1]; simp
    have e2' : zs.toArray.size = vs.length := by rw [hlen, ← e2]; simp
    rw [e1'] at D1
    rw [e2'] at D2
    have X := zap_of s.heap.objs.size a b la lb
    have WT := walksZip D1 D2 X
    have WU := KTurns.ofWalksU (elts := elts) (k := k) (pos := p) WT.toU
    have hl : vs.length = (pairI (vs.zip ws)).length := by simp [pairI, ← hlen]
    rw [hl] at WU
    have st0 : (fun (i : Nat) h => IsZip h (s.heap.objs.size + 4) (s.heap.objs.size + 2) (s.heap.objs.size + 3) .none ∧ IsPair h (s.heap.objs.size + 2) (.ref s.heap.objs.size) (.ref (s.heap.objs.size + 1)) ∧ (∃ a b, IsPair h (s.heap.objs.size + 3) a b) ∧ (h.IsTupleIter s.heap.objs.size a i ∧ h.IsTuple a ys.toArray) ∧ (h.IsTupleIter (s.heap.objs.size + 1) b i ∧ h.IsTuple b zs.toArray)) 0 (zTup s.heap a b) :=
      ⟨hz, hTI, ⟨_, _, hTO⟩, ⟨hI1, _, up _ _ (r.N _ a1).1, rfl, _, rfl⟩, hI2, _, up _ _ (r.N _ b1).1, rfl, _, rfl⟩
    have sz : (zTup s.heap a b).objs.size = s.heap.objs.size + 5 := by simp only [zTup, Heap.size_push]
    have h0 : ∀ d : Nat, s.heap.objs.size ≤ d → c.h₀.get? d = none := fun d hd => by
      cases e : c.h₀.get? d with
      | none => rfl
      | some o => exact absurd (Heap.lt_size (r.F.keep d o e)) (Nat.not_lt.mpr hd)
    have hi : ∀ b ∈ c.frz ++ W.news, ∀ p ∈ [(((s.heap.objs.size + 2 : Nat) : Addr), tupO #[.ref s.heap.objs.size, .ref (s.heap.objs.size + 1)])], b.1 < p.1 := fun b hb p hp => by
      rw [List.mem_singleton.mp hp]; exact Nat.lt_add_right 2 (Heap.lt_size (r.all b hb).1)
    have gW := Gr.next (c := c) (W := W) (new := [(((s.heap.objs.size + 2 : Nat) : Addr), tupO #[.ref s.heap.objs.size, .ref (s.heap.objs.size + 1)])]) hi (fun p hp => by rw [List.mem_singleton.mp hp]; exact tup_cls)
    have rW := r.next (h' := zTup s.heap a b) (tk := s.toks) (new := [(((s.heap.objs.size + 2 : Nat) : Addr), tupO #[.ref s.heap.objs.size, .ref (s.heap.objs.size + 1)])]) (r.F.keeps up) (fun p hp => by
      rcases List.mem_cons.mp hp with rfl | hp
      · refine ⟨?_, (ad_off lL 2).symm, h0 _ (ad_ge _ _)⟩
        have := Heap.get?_push_size ((s.heap.push { cls := .type "tuple_iterator", data := .fields #[.ref a, .int 0 0] }).push { cls := .type "tuple_iterator", data := .fields #[.ref b, .int 0 0] }) (o := { cls := .type "tuple", data := .seq #[.ref s.heap.objs.size, .ref (s.heap.objs.size + 1)] }) rfl
        simp only [Heap.size_push] at this
        exact Heap.get?_push_of_some _ (Heap.get?_push_of_some _ this)
      · exact (r.all.grown up) p hp) hi
    refine q _ _ σ _ m _ h rW gW fun E Q' hQ => ?_
    refine WT.self 0 _ Q' E st0 (hQ (zTup s.heap a b) (s.heap.objs.size + 4) _ _ _ _ _ (fun _ _ h => h) ⟨WU, fun s2 Q2 E2 st q => WT.self 0 s2 Q2 E2 st q, st0, ?_, ?_, ?_, ?_, ?_, ?_, ?_, ?_⟩)
    · intro d hd
      rw [sz]
      simp at hd
      rcases hd with rfl | rfl | rfl | rfl | rfl | rfl | rfl
      · exact ad_m (by decide)
      · exact ad_m (by decide)
      · exact ad_m (by decide)
      · exact ad_m (i := 0) (by decide)
      · exact ad_lt la 5
      · exact ad_m (by decide)
      · exact ad_lt lb 5
    · intro hd
      simp at hd
      rcases hd with e | e | e | e | e | e | e
      · exact ad_off lL 4 e
      · exact ad_off lL 2 e
      · exact ad_off lL 3 e
      · exact ad_off lL 0 e
      · exact (r.N _ a1).2.1 e.symm
      · exact ad_off lL 1 e
      · exact (r.N _ b1).2.1 e.symm
    · intro d hd
      simp at hd
      rcases hd with rfl | rfl | rfl | rfl
      · exact h0 _ (ad_ge _ _)
      · exact h0 _ (ad_ge _ _)
      · exact h0 _ (ad_ge _ 0)
      · exact h0 _ (ad_ge _ _)
    · intro t ht hd
      have ht : t.1 = s.heap.objs.size + 2 ∨ t ∈ c.frz ++ W.news := by
        rcases List.mem_append.mp ht with ht | ht
        · exact .inr (List.mem_append_left _ ht)
        · rcases List.mem_cons.mp ht with rfl | ht
          · exact .inl rfl
          · exact .inr (List.mem_append_right _ ht)
      rcases ht with ht | ht
      · rw [ht] at hd
        simp at hd
      have this := ad_off (lt_size r t ht)
      simp at hd
      rcases hd with e | e | e | e
      · exact this 4 e
      · exact this 3 e
      · exact this 0 e
      · exact this 1 e
    · intro hz t ht hd
      have this := ad_off (r.tabLt hz t ht)
      simp at hd
      rcases hd with e | e | e | e
      · exact this 4 e
      · exact this 3 e
      · exact this 0 e
      · exact this 1 e
    · intro i h st d hd
      obtain ⟨s1, s2, ⟨_, _, s3⟩, ⟨⟨o1, s4, _⟩, _⟩, ⟨o2, s5, _⟩, _⟩ := st
      simp at hd
      rcases hd with rfl | rfl | rfl | rfl
      · exact ⟨_, s1⟩
      · exact ⟨_, s3⟩
      · exact ⟨_, s4⟩
      · exact ⟨_, s5⟩
    · intro hmd d hd
      simp at hd
      rcases hd with rfl | rfl | rfl | rfl | rfl | rfl | rfl
      · exact .inl (by simp)
      · exact .inr ⟨_, List.mem_append_left _ (.head _), fun own => keep_tup _ _ _ _⟩
      · exact .inl (by simp)
      · exact .inl (by simp)
      · exact .inr ⟨_, List.mem_append_right _ a1, fun own => keep_tup _ _ _ _⟩
      · exact .inl (by simp)
      · exact .inr ⟨_, List.mem_append_right _ b1, fun own => keep_tup _ _ _ _⟩
    · intro i v h hi hp
      obtain ⟨T, vals, rfl, ⟨x, y, px, py, rfl⟩, hT⟩ := hp
      have hi1 : i < vs.length := by rw [hl]; exact hi
      have hi2 : i < ws.length := by rw [← hlen]; exact hi1
      obtain ⟨u, hu, hu'⟩ := a2.get (List.getElem?_eq_getElem hi1)
      obtain ⟨u2, hv, hv'⟩ := b2.get (List.getElem?_eq_getElem hi2)
      have px' : ys[i]? = some x := by simpa using px
      have py' : zs[i]? = some y := by simpa using py
      rw [px'] at hu; rw [py'] at hv
      cases hu; cases hv
      refine ⟨.pair vs[i] ws[i], ?_, T, _, _, rfl, hT, hu'.mono gW.le, hv'.mono gW.le⟩
      have hz : i < (vs.zip ws).length := by rw [List.length_zip]; exact Nat.lt_min.mpr ⟨hi1, hi2⟩
      show ((vs.zip ws).map fun p => It.pair p.1 p.2)[i]? = _
      rw [List.getElem?_map, List.getElem?_eq_getElem hz, List.getElem_zip]
      rfl
theorem lp_ret {target : Expr} {body : List Stmt} {r : List It} {P : Fl → St → Prop} {v : V} (h : P (.ret v) σ) : lpK S c n target body r P (.ret v) σ := h
end
end Mine

end

section
set_option maxRecDepth 100000
set_option autoImplicit false
set_option linter.unusedVariables false
set_option Elab.async false
set_option maxHeartbeats 4000000
open PySem PySem.W PyProof.Rows PySem.Calls
namespace Mine
section
variable {S : Sx} {c : Cx} {σ : St} {n : Nat} (hK : S.K = hd.heap_39 S.w.params)
include hK
theorem cmp_fq_ne (O : Ok S c n) (hn : 40 ≤ n) {q a b : Int} {P : V → St → Prop} (a0 : 0 ≤ a) (a1 : a < q) (b0 : 0 ≤ b) (b1 : b < q) (h : P (.bool (a != b)) σ) : CmpS S c .NotEq (fqV q a) (fqV q b) σ P := fun W x y hx hy m s Q r k => by
  obtain ⟨dp, un, gd, eA, hdp, hun⟩ := O.lit
  have X := hK ▸ O.X
  rw [eA]
  exact fq_neq O.B r.F X r.all O.T O.hf O.hke (by omega) (by omega) (hx.fq.mono fun p hp => List.mem_append_right _ hp) a0 a1 (hy.fq.mono fun p hp => List.mem_append_right _ hp) b0 b1 (fun h' tk' F' N' => k _ _ σ W m _ h (R.flat r F' N') .refl .bool)
end
end Mine

end

section
set_option maxRecDepth 100000
set_option autoImplicit false
set_option linter.unusedVariables false
set_option Elab.async false
set_option maxHeartbeats 4000000
open PySem PySem.W PyProof.Rows PySem.Calls
namespace Mine
open PySem PySem.W PyProof.Rows PySem.Calls PyProof.Rows.LCg
section
variable {S : Sx} {c : Cx} {σ : St} {n : Nat}
theorem call_max2 (O : Ok S c n) {a b : Int} {P : V → St → Prop} (h : P (.int (if b > a then b else a)) σ) : CallS S c (.old (.builtin "max")) [.int a, .int b] σ P := fun W x xs hx hxs m s Q r q => by
  cases hx
  cases hxs with
  | cons h1 z => cases z with
    | cons h2 z =>
      cases z; cases h1; cases h2
      refine max_two_ints O.hh fun h' tk hk => ?_
      have e : ∀ v, VR W (.int (if b > a then b else a)) v → Q v { s with heap := h', toks := tk } := fun v hv => q _ _ σ W m _ h (r.keep (tk := tk) hk) .refl hv
      split
      · rename_i hc; exact e _ (by rw [if_pos hc]; exact .int)
      · rename_i hc; exact e _ (by rw [if_neg hc]; exact .int)
end
end Mine

end

section
set_option maxRecDepth 100000
set_option autoImplicit false
set_option linter.unusedVariables false
set_option Elab.async false
set_option maxHeartbeats 4000000
open PySem PySem.W PyProof.Rows PySem.Calls
namespace Mine
open PySem PySem.W PyProof.Rows PySem.Calls PyProof.Rows.LCg
theorem draw_list {prog : Program} {w : World} {A : Around} {E : Value → Shared → Prop} {it l : Addr} {items : Array Value} (hne : l ≠ it) : ∀ (n i : Nat) (s : Shared) (Q : List Value → Shared → Prop), s.heap.IsListIter it l i → s.heap.IsList l items → i + n ≤ items.size →
    (∀ h', h'.IsListIter it l (i + n) → Heap.SameBut it s.heap h' → Q ((items.toList.drop i).take n) { s with heap := h' }) → wpAny (model prog w) A (draw (.ref it) n) Q E s
  | 0, i, s, Q, hit, _, _, hQ => by
    show wpAny _ _ (pure []) Q E s
    exact wpAny_pure (by simpa using hQ s.heap hit (Heap.SameBut.refl ..))
  | n + 1, i, s, Q, hit, hl, hle, hQ => by
    have hlt : i < items.size := by omega
    show wpAny _ _ (pyNext (.ref it) >>= _) Q E s
    refine wpAny_bind (wpAny_pyNext_list_item hit hl (x := items[i]) (by simp [hlt]) fun h₁ hit₁ hs₁ => ?_)
    refine wpAny_bind (wpAny_holding (draw_list hne n (i + 1) _ _ hit₁ (hl.extBut hs₁.extBut hne) (by omega) fun h₂ hit₂ hs₂ => wpAny_pure ?_))
    have hd : items.toList.drop i = items[i] :: items.toList.drop (i + 1) := by simp [List.drop_eq_getElem_cons, hlt]
    have := hQ h₂ (by rw [show i + (n + 1) = i + 1 + n by omega]; exact hit₂) (hs₁.trans hs₂)
    rw [hd, List.take_succ_cons] at this
    exact this
theorem unpackItems_list {prog : Program} {w : World} {A : Around} {E : Value → Shared → Prop} {s : Shared} {l : Addr} {items : Array Value} {Q : List Value → Shared → Prop} (hh : A.handled = none) (hl : s.heap.IsList l items)
    (hQ : ∀ h', Heap.ExtBut s.heap.objs.size s.heap h' → Q items.toList { s with heap := h' }) : wpAny (model prog w) A (unpackItems (.ref l) items.size none) Q E s := by
  have hlt : l ≠ s.heap.objs.size := by obtain ⟨o, ho, _⟩ := hl; exact Nat.ne_of_lt (Heap.lt_size ho)
  unfold unpackItems
  refine wpAny_bind ?_
  · unfold notIterableAtAll
    refine wpAny_bind (wpAny_specialOf hl.typeIs PySem.F.slot_list_iter.lookup ?_)
    refine wpAny_pure ?_
    simp only [Bool.false_eq_true, if_false]
    refine wpAny_bind (wpAny_holding (wpAny_pyIter_list hl ?_))
    refine wpAny_bind (wpAny_holding (draw_list hlt items.size 0 _ _ ⟨_, Heap.get?_push_size _ rfl, rfl, rfl⟩ (hl.push _) (by omega) fun h₁ hit₁ hs₁ => ?_))
    have hall : List.take items.size (List.drop 0 items.toList) = items.toList := by
      rw [List.drop_zero]; exact List.take_of_length_le (by simp)
    rw [hall]
    rw [if_neg (by simp)]
    have hl₁ : h₁.IsList l items := (hl.push _).extBut hs₁.extBut hlt
    refine wpAny_bind (wpAny_holding (wpAny_pyNext_list_end hh hit₁ hl₁ (by simp) fun h₂ he₂ => ?_))
    simp only [Option.isSome_none, Bool.false_eq_true, if_false]
    refine wpAny_pure (hQ h₂ fun b o hb e => he₂ b o hb (hs₁.extBut b o hb (Heap.get?_push_of_some _ e)))
section
variable {S : Sx} {c : Cx} {σ : St} {n : Nat}
theorem asg_lst (O : Ok S c n) {ts : List Expr} {k : Nat} {p : Pos} {j : Nat} {vs : List V} {P : Unit → St → Prop} (hj : σ.ls[j]? = some vs) (he : (assignEach ts c.fenv).map (·.2) = ts.map fun t => assign t c.fenv) (hl : (assignEach ts c.fenv).length = vs.length) (hs : (assignEach ts c.fenv).findIdx? (·.1) = none)
    (h : AllA S c ts vs σ P) : AsgS S c (.Tuple ts k p) (.lst j) σ P := fun W x hx m s Q r q => by
  obtain ⟨a, xs, c', rfl, h1, h2, h3⟩ := r.lstAt hj hx
  rw [arm_assign_Tuple]
  refine wpAny_bind (wpAny_standAt ?_)
  unfold unpack
  rw [hs]
  have e : (assignEach ts c.fenv).length = xs.toArray.size := by rw [hl, List.size_toArray, h3.length]
  rw [e]
  refine wpAny_bind (wpAny_holding (unpackItems_list O.hh (isL_of h2 r) fun h' hx' => ?_))
  rw [he]
  exact h W xs h3 m _ Q (r.keep (tk := s.toks) fun b o e => hx' b o (Nat.ne_of_lt (Heap.lt_size e)) e) q
end
end Mine

end

section
set_option maxRecDepth 100000
set_option autoImplicit false
set_option linter.unusedVariables false
set_option Elab.async false
set_option maxHeartbeats 4000000
open PySem PySem.W PyProof.Rows PySem.Calls
namespace Mine
structure CmpOk (K : Frag) (C f : Addr) (op : CmpOp) : Prop where
  hs : findIn K (.ref C) (cmpInfo op).2.1 = some (some (.ref f))
  hf : isFn K (.ref f) = true
section
variable {S : Sx} {c : Cx} {σ : St} {n : Nat} (hK : S.K = hd.heap_39 S.w.params)
include hK
theorem cmp_instEq (O : Ok S c n) {C f : Addr} {fs gs : List (Str × V)} {P : V → St → Prop} (X : CmpOk (hd.heap_39 S.w.params) C f .Eq) (h : CallS S c (.old (.ref f)) [.inst C fs, .inst C gs] σ fun v σ' => notOld v = true ∧ P v σ') : CmpS S c .Eq (.inst C fs) (.inst C gs) σ P := fun W x y hx hy m s Q r q => by
  obtain ⟨xa, dx, odx, rfl, Ix⟩ := hx.instI r
  obtain ⟨ya, dy, ody, rfl, Iy⟩ := hy.instI r
  have X' := hK ▸ O.X
  have hu : c.A.units < cLine := by
    obtain ⟨dp, un, gd, eA, hdp, hun⟩ := O.lit
    rw [eA]; show un < cLine; omega
  refine cmp_ofEq (cmp_K hu r.F X' Ix Iy.type (by simp [notFirst]) X.hs X.hf ?_)
  exact h W _ _ .old (.cons hx (.cons hy .nil)) m s _ r fun v b σ' W' m' s' p r' g' e' => cmpBack e' p.1 (q v b σ' W' m' s' p.2 r' g' e')
end
theorem ceq_422 (P : Params) : CmpOk (hd.heap_39 P) 161 124 .Eq := ⟨by k_is, by k_is⟩
theorem ceq_451 (P : Params) : CmpOk (hd.heap_39 P) 190 124 .Eq := ⟨by k_is, by k_is⟩
theorem ceq_297 (P : Params) : CmpOk (hd.heap_39 P) 449 420 .Eq := ⟨by k_is, by k_is⟩
theorem mt_422_one (P : Params) : MthOk (hd.heap_39 P) 161 "one" 151 := ⟨by k_is, by k_is, by k_is, by k_is⟩
theorem mt_451_one (P : Params) : MthOk (hd.heap_39 P) 190 "one" 151 := ⟨by k_is, by k_is, by k_is, by k_is⟩
theorem mt_297_one (P : Params) : MthOk (hd.heap_39 P) 449 "one" 439 := ⟨by k_is, by k_is, by k_is, by k_is⟩
theorem bo_297_DivE (P : Params) : BinOk (hd.heap_39 P) 449 394 Operator.Div.info.2 := ⟨by k_is, by k_is, by k_is⟩
theorem bo_422_DivE (P : Params) : BinOk (hd.heap_39 P) 161 93 Operator.Div.info.2 := ⟨by k_is, by k_is, by k_is⟩
theorem bo_451_DivE (P : Params) : BinOk (hd.heap_39 P) 190 93 Operator.Div.info.2 := ⟨by k_is, by k_is, by k_is⟩
end Mine

end

section
set_option maxRecDepth 100000
set_option autoImplicit false
set_option linter.unusedVariables false
namespace Mine
open PySem PySem.W PyProof.Rows PySem.Calls PySem.SeqAt PySem.MeetsSeq PySem.MeetsSeq2 PySem.MeetsSeq3 PySem.SeqRoads2
open PySem.AutoSeq1 (wpAny_loadPart')
section
variable {prog : Program} {w : World} {A : Around} {E : Value → Shared → Prop} {s : Shared}

def ltL : List Int → List Int → Bool
  | [], [] => false
  | [], _ :: _ => true
  | _ :: _, [] => false
  | a :: r, b :: t => if a = b then ltL r t else decide (a < b)
theorem lt_loop (l b : Addr) (items items2 : Array Value) (dd dd2 : Option Addr) (sl sl2 : Array (Option Value)) (n n2 : Nat) (hsz : items.size = items2.size) (ns ms : List Int) (k : Nat)
    (hi : ∀ (i : Nat) v, items[i]? = some v → ∃ t, v = .int (ns.getD i 0) t) (hj : ∀ (i : Nat) v, items2[i]? = some v → ∃ t, v = .int (ms.getD i 0) t) (hn : ns.length = items.size) (hm : ms.length = items2.size) :
    ∀ i : Nat, items.size - i = k → i ≤ items.size → Meets (Builtin.«list.__eq__.loop» ⟨[.ref l, .ref b, rawInt i, rawInt 0], []⟩)
      (fun A R s => s.heap.get? l = some { cls := .type "list", dict := dd, data := .seq items n, slots := sl } ∧ s.heap.get? b = some { cls := .type "list", dict := dd2, data := .seq items2 n2, slots := sl2 } ∧
        R (.ok (.ret (.bool (ltL (ns.drop i) (ms.drop i))))) s) := by
  induction k with
  | zero =>
    intro i hk hle prog w A R s h
    obtain ⟨hp, g, d, tk, os⟩ := s; obtain ⟨hl, hb, h⟩ := h
    wp_walk using wpAny_loadPart' hl, wpAny_loadPart' hb
    have hi1 : items[((i : Nat) : Int).toNat]? = none := by simp; omega
    have hi2 : items2[((i : Nat) : Int).toNat]? = none := by simp; omega
    rw [List.drop_eq_nil_of_le (by omega), List.drop_eq_nil_of_le (by omega)] at h
    rw [hi1, hi2]
    wp_walk using wpAny_loadPart' hl, wpAny_loadPart' hb
    show R (.ok (.ret (.bool (decide (items.size < items2.size))))) _
    rw [hsz]
    simpa [ltL] using h
  | succ k ih =>
    intro i hk hle prog w A R s h
    obtain ⟨hp, g, d, tk, os⟩ := s; obtain ⟨hl, hb, h⟩ := h
    wp_walk using wpAny_loadPart' hl, wpAny_loadPart' hb
    have hlt : i < items.size := by omega
    have hlt2 : i < items2.size := by omega
    obtain ⟨t, ht⟩ := hi i items[i] (by simp [hlt])
    obtain ⟨u, hu⟩ := hj i items2[i] (by simp [hlt2])
    have hi1 : items[((i : Nat) : Int).toNat]? = some items[i] := by simp [hlt]
    have hi2 : items2[((i : Nat) : Int).toNat]? = some items2[i] := by simp [hlt2]
    have hc : ((i : Int) + 1) = ((i + 1 : Nat) : Int) := by push_cast; rfl
    have hd1 : ns.drop i = ns.getD i 0 :: ns.drop (i + 1) := by rw [List.drop_eq_getElem_cons (by omega)]; simp [show i < ns.length by omega]
    have hd2 : ms.drop i = ms.getD i 0 :: ms.drop (i + 1) := by rw [List.drop_eq_getElem_cons (by omega)]; simp [show i < ms.length by omega]
    rw [hd1, hd2, ltL] at h
    rw [hi1, hi2]
    dsimp only
    rw [ht, hu]
    refine wpAny_bind (EqAt.int_int (A := A.in1) (s := _) (ns.getD i 0) t (ms.getD i 0) u prog w _ _ ?_)
    by_cases hb' : ns.getD i 0 = ms.getD i 0
    · rw [if_pos hb'] at h
      rw [show (ns.getD i 0 == ms.getD i 0) = true from beq_iff_eq.mpr hb']
      wp_walk
      rw [hc]
      exact ⟨plainId_quiet plain_eq_loop _, codeAny_builtin entry_eq_loop (by
        rw [Around.under_plainId plain_eq_loop _]
        exact ih (i + 1) (by omega) (by omega) prog w A R _ ⟨hl, hb, h⟩)⟩
    · rw [if_neg hb'] at h
      rw [show (ns.getD i 0 == ms.getD i 0) = false from beq_eq_false_iff_ne.mpr hb']
      wp_walk using wpAny_loadPart' hl, wpAny_loadPart' hb
      rw [hi1, hi2]
      dsimp only
      rw [ht, hu]
      refine wpAny_bind (show wpAny _ _ (compareOp .Lt (.int _ _) (.int _ _)) _ _ _ from wpAny_lt_int ?_)
      exact wpAny_pure h
theorem list_lt (l b : Addr) (items items2 : Array Value) (dd dd2 : Option Addr) (sl sl2 : Array (Option Value)) (n n2 : Nat) (hsz : items.size = items2.size) (ns ms : List Int)
    (hi : ∀ (i : Nat) v, items[i]? = some v → ∃ t, v = .int (ns.getD i 0) t) (hj : ∀ (i : Nat) v, items2[i]? = some v → ∃ t, v = .int (ms.getD i 0) t) (hn : ns.length = items.size) (hm : ms.length = items2.size) :
    Meets (Builtin.«list.__lt__» ⟨[.ref l, .ref b], []⟩)
      (fun A R s => s.heap.get? l = some { cls := .type "list", dict := dd, data := .seq items n, slots := sl } ∧ s.heap.get? b = some { cls := .type "list", dict := dd2, data := .seq items2 n2, slots := sl2 } ∧
        R (.ok (.ret (.bool (ltL ns ms)))) s) := by
  intro prog w A R s h
  obtain ⟨hp, g, d, tk, os⟩ := s; obtain ⟨hl, hb, h⟩ := h
  have f3 := PySem.AutoSeq1.sub_list_list
  wp_walk using wpAny_loadPart' hl, wpAny_loadPart' hb
  exact ⟨plainId_quiet plain_eq_loop _, codeAny_builtin entry_eq_loop (by
    rw [Around.under_plainId plain_eq_loop _]
    exact lt_loop l b items items2 dd dd2 sl sl2 n n2 hsz ns ms _ hi hj hn hm 0 rfl (Nat.zero_le _) prog w A R _ ⟨hl, hb, h⟩)⟩
theorem IntsAre.getD : ∀ {xs : List Value} {ns : List Int}, IntsAre xs ns → ∀ (i : Nat) v, xs[i]? = some v → ∃ t, v = .int (ns.getD i 0) t
  | _, _, .nil, i, v, h => by simp at h
  | _, _, .cons a t r, 0, v, h => by simp at h; exact ⟨t, h.symm⟩
  | _, _, .cons a t r, i + 1, v, h => by simpa using IntsAre.getD r i v (by simpa using h)
theorem oneLt_lists {l b : Addr} {xs ys : List Value} {ns ms : List Int} {Q : Bool → Shared → Prop} (hu : A.units < cLine) (hl : s.heap.IsList l xs.toArray) (hb : s.heap.IsList b ys.toArray) (hi : IntsAre xs ns) (hj : IntsAre ys ms) (he : ns.length = ms.length) (h : Q (ltL ns ms) s) :
    wpAny (model prog w) A (keyLt' oneType' (.ref l) (.ref b)) Q E s := by
  obtain ⟨⟨cls, dd, data, sl⟩, ho, hc, n, hd⟩ := id hl
  obtain ⟨⟨cls2, dd2, data2, sl2⟩, ho2, hc2, n2, hd2⟩ := id hb
  simp only at hc hd hc2 hd2
  subst hc hd hc2 hd2
  have e1 := hi.length
  have e2 := hj.length
  rw [keyLt'_oneType, oneLt'_eq]
  simp only [if_true]
  refine wpAny_bind (wpAny_cRoomFor hu ?_)
  refine wpAny_bind (wpAny_callSpecialIfBound?_slot hl.typeIs PySem.F.slot_list_lt (call_meets PySem.F.slot_list_lt hl.typeIs PySem.F.entry_list_lt (PySem.F.args_list_lt_2 _ _) (list_lt l b xs.toArray ys.toArray dd dd2 sl sl2 n n2 (by simp; omega) ns ms (fun i v h => Mine.IntsAre.getD hi i v (by simpa using h)) (fun i v h => Mine.IntsAre.getD hj i v (by simpa using h)) (by simp; omega) (by simp; omega)) ⟨ho, ho2, ?_⟩))
  exact wpAny_truthy_bool h
end
end Mine

end

section
set_option maxRecDepth 100000
set_option autoImplicit false
set_option linter.unusedVariables false
namespace Mine
open PySem PySem.W PyProof.Rows PySem.Calls PyProof.Rows.LCg
section
variable {prog : Program} {w : World} {A : Around} {E : Value → Shared → Prop} {s : Shared}

abbrev Wk : Type := (Value → Shared → Prop) → (Shared → Prop) → Shared → Prop
def Wk0 (prog : Program) (w : World) (A : Around) (elt : Expr) (acc : Value) (env : Env) : Wk := fun E Q s =>
  wpAny (model prog w) A (eval elt env) (fun x s₄ => wpAny (model prog w) A (call (.builtin "list.append") [acc, x]) (fun _ s₅ => Q s₅) E s₄) E s
def Wk1 (prog : Program) (w : World) (A : Around) (c elt : Expr) (acc : Value) (env : Env) : Wk := fun E Q s =>
  wpAny (model prog w) A (isTrue c env (eval c env)) (fun ok s₃ => if ok = true then Wk0 prog w A elt acc env E Q s₃ else Q s₃) E s
def LoopN (prog : Program) (w : World) (A : Around) (e : Expr) (d : Nat) (target : Expr) (it acc : Value) (env : Env) (T : Wk) : Prop :=
  ∀ (R : Result → Shared → Prop) (I : Nat → Shared → Prop),
    (∀ n s, I n s → wpAny (model prog w) A (pyNext it) (fun r s₁ => match r with
      | none => R (.ok .next) s₁
      | some v => wpAny (model prog w) A (letOwnedTupleGo target it v) (fun _ s₀ => wpAny (model prog w) A (assign target env v) (fun _ s₂ =>
          T (notedBy (model prog w) A env fun e s' => R (.error e) s') (fun s₅ => ∃ m, m < n ∧ I m s₅) s₂)
          (notedBy (model prog w) A env fun e s' => R (.error e) s') s₀) (notedBy (model prog w) A env fun e s' => R (.error e) s') s₁) (notedBy (model prog w) A env fun e s' => R (.error e) s') s) →
    ∀ n s, I n s → codeAny (model prog w) A (.compLoop e d it acc env) R s
theorem loop0 {elt target iter : Expr} {scope : Scope} {pos : Pos} {it acc : Value} {env : Env} : LoopN prog w A (.ListComp elt [⟨target, iter, [], 0⟩] scope pos) 0 target it acc env (Wk0 prog w A elt acc env) :=
  fun R I turn n s h => kcp_loop I turn n h
theorem loop1 {elt target iter c : Expr} {scope : Scope} {pos : Pos} {it acc : Value} {env : Env} : LoopN prog w A (.ListComp elt [⟨target, iter, [c], 0⟩] scope pos) 0 target it acc env (Wk1 prog w A c elt acc env) :=
  fun R I turn n s h => kct_loop I turn n h
theorem compTurn_in (elt t1 i1 t2 i2 c : Expr) (scope : Scope) (pos : Pos) (it acc : Value) (env : Env) :
    compTurn (.ListComp elt [⟨t1, i1, [], 0⟩, ⟨t2, i2, [c], 0⟩] scope pos) 1 it acc env = (do
      standAt i2.pos
      match ← pyNext it with
      | none => pure (.done .next)
      | some v =>
        letOwnedTupleGo t2 it v
        assign t2 env v
        let mut ok := true
        for c in [c] do
          if ok then ok ← isTrue c env (eval c env)
        if ok then
          (do let _ ← call (.builtin "list.append") [acc, ← eval elt env])
        again (.compLoop (.ListComp elt [⟨t1, i1, [], 0⟩, ⟨t2, i2, [c], 0⟩] scope pos) 1 it acc env)) := by rfl
theorem loopIn {elt t1 i1 t2 i2 c : Expr} {scope : Scope} {pos : Pos} {it acc : Value} {env : Env} : LoopN prog w A (.ListComp elt [⟨t1, i1, [], 0⟩, ⟨t2, i2, [c], 0⟩] scope pos) 1 t2 it acc env (Wk1 prog w A c elt acc env) := fun R I turn n s h => by
  refine codeAny_loop rfl I (fun n s hI => ?_) n h
  show wpAny _ A ((compTurn (.ListComp elt [⟨t1, i1, [], 0⟩, ⟨t2, i2, [c], 0⟩] scope pos) 1 it acc env).onRaise (fun x => do noteFrame x env; theTreesLotGoes x)) _ _ s
  refine wpAny_noted ?_
  rw [compTurn_in]
  refine wpAny_bind (wpAny_standAt (wpAny_bind (wpAny_mono (turn n s hI) (fun r s₁ h₁ => ?_) fun _ _ h' => h')))
  cases r with
  | none => exact wpAny_pure h₁
  | some v =>
    refine wpAny_bind (wpAny_mono h₁ (fun _ s₀ h₀' => ?_) fun _ _ h' => h')
    refine wpAny_bind (wpAny_mono h₀' (fun _ s₂ h₂ => ?_) fun _ _ h' => h')
    refine wpAny_bind (wpAny_tests_one (wpAny_mono h₂ (fun okb s₃ h₃ => ?_) fun _ _ h' => h'))
    cases okb with
    | false => exact wpAny_pure ⟨rfl, h₃⟩
    | true => exact wpAny_bind (wpAny_bind (wpAny_mono h₃ (fun x s₄ h₄ => wpAny_bind (wpAny_mono h₄ (fun _ s₅ h₅ => wpAny_pure (wpAny_pure ⟨rfl, h₅⟩)) fun _ _ h' => h')) fun _ _ h' => h'))

def Wk2 (prog : Program) (w : World) (A : Around) (e i2 : Expr) (acc : Value) (env : Env) : Wk := fun E Q s =>
  wpAny (model prog w) A (eval i2 env) (fun x s₃ => wpAny (model prog w) A (pyIter x) (fun it s₄ =>
    codeAny (model prog w) A (.compStart e 1 it acc env) (fun r s' => match r with | .ok _ => Q s' | .error _ => False) s₄) E s₃) E s
theorem compTurn_out (elt t1 i1 t2 i2 c : Expr) (scope : Scope) (pos : Pos) (it acc : Value) (env : Env) :
    compTurn (.ListComp elt [⟨t1, i1, [], 0⟩, ⟨t2, i2, [c], 0⟩] scope pos) 0 it acc env = (do
      standAt i1.pos
      match ← pyNext it with
      | none => pure (.done .next)
      | some v =>
        letOwnedTupleGo t1 it v
        assign t1 env v
        let mut ok := true
        for c in ([] : List Expr) do
          if ok then ok ← isTrue c env (eval c env)
        if ok then
          let x ← eval i2 env
          standAt i2.pos
          let x ← foldedSetIterable i2 env x
          let _ ← runOwn (.compStart (.ListComp elt [⟨t1, i1, [], 0⟩, ⟨t2, i2, [c], 0⟩] scope pos) 1 (← holding [x] (pyIter x)) acc env) env
        again (.compLoop (.ListComp elt [⟨t1, i1, [], 0⟩, ⟨t2, i2, [c], 0⟩] scope pos) 0 it acc env)) := by rfl
theorem loopOut {elt t1 i1 t2 i2 c : Expr} {scope : Scope} {pos : Pos} {it acc : Value} {env : Env} (hs : ∀ x, foldedSetIterable i2 env x = pure x) :
    LoopN prog w A (.ListComp elt [⟨t1, i1, [], 0⟩, ⟨t2, i2, [c], 0⟩] scope pos) 0 t1 it acc env (Wk2 prog w A (.ListComp elt [⟨t1, i1, [], 0⟩, ⟨t2, i2, [c], 0⟩] scope pos) i2 acc env) := fun R I turn n s h => by
  refine codeAny_loop rfl I (fun n s hI => ?_) n h
  show wpAny _ A ((compTurn (.ListComp elt [⟨t1, i1, [], 0⟩, ⟨t2, i2, [c], 0⟩] scope pos) 0 it acc env).onRaise (fun x => do noteFrame x env; theTreesLotGoes x)) _ _ s
  refine wpAny_noted ?_
  rw [compTurn_out]
  refine wpAny_bind (wpAny_standAt (wpAny_bind (wpAny_mono (turn n s hI) (fun r s₁ h₁ => ?_) fun _ _ h' => h')))
  cases r with
  | none => exact wpAny_pure h₁
  | some v =>
    refine wpAny_bind (wpAny_mono h₁ (fun _ s₀ h₀' => ?_) fun _ _ h' => h')
    refine wpAny_bind (wpAny_mono h₀' (fun _ s₂ h₂ => ?_) fun _ _ h' => h')
    refine wpAny_bind (wpAny_tests_nil ?_)
    refine wpAny_bind (wpAny_mono h₂ (fun x s₃ h₃ => ?_) fun _ _ h' => h')
    refine wpAny_bind (wpAny_standAt (wpAny_bind (wpAny_of_eq (hs x) (wpAny_bind (wpAny_holding (wpAny_mono h₃ (fun it2 s₄ h₄ => ?_) fun _ _ h' => h'))))))
    refine wpAny_bind (wpAny_runOwn (codeAny_mono h₄ fun r s' hr => ?_))
    cases r with
    | ok f => exact wpAny_pure ⟨rfl, hr⟩
    | error e => exact hr.elim
theorem startIn {elt target iter c : Expr} {g : Comprehension} {scope : Scope} {pos : Pos} {it acc : Value} {env : Env} {R : Result → Shared → Prop}
    (h0 : codeAny (model prog w) A (.compLoop (.ListComp elt [g, ⟨target, iter, [c], 0⟩] scope pos) 1 it acc env) R s)
    (h : wpAny (model prog w) A (pyIter it) (fun it' s' => codeAny (model prog w) A (.compLoop (.ListComp elt [g, ⟨target, iter, [c], 0⟩] scope pos) 1 it' acc env) R s')
      (notedBy (model prog w) A env fun x s' => R (.error x) s') s) :
    codeAny (model prog w) A (.compStart (.ListComp elt [g, ⟨target, iter, [c], 0⟩] scope pos) 1 it acc env) R s := by
  refine codeAny_of_tree ?_
  show wpAny _ _ ((compStart (.ListComp elt [g, ⟨target, iter, [c], 0⟩] scope pos) 1 it acc env).onRaise (fun x => do noteFrame x env; standAt theWindowsPlace)) _ _ s
  refine wpAny_notedAt ?_
  unfold compStart
  show wpAny _ _ (ask >>= _) _ _ s
  refine wpAny_bind (wpAny_askSetting (wpAny_ite ?_))
  split
  · first
      | exact wpAny_bind (wpAny_pure (wpAny_pure (And.intro rfl h0)))
      | exact wpAny_pure (And.intro rfl h0)
  · first
      | exact wpAny_bind (wpAny_rule (wpAny_bind (wpAny_standAt (wpAny_bind (wpAny_mono h (fun it' s' h' => wpAny_pure (And.intro rfl h')) fun _ _ x => x)))))
      | (refine wpAny_bind (wpAny_rule ?_); show wpAny _ _ (standAt iter.pos >>= _) _ _ s; exact wpAny_bind (wpAny_standAt (wpAny_bind (wpAny_mono h (fun it' s' h' => wpAny_pure (And.intro rfl h')) fun _ _ x => x))))
end
end Mine

end

section
set_option maxRecDepth 100000
set_option autoImplicit false
set_option linter.unusedVariables false
namespace Mine
open PySem PySem.W PyProof.Rows PySem.Calls PyProof.Rows.LCg
mutual
inductive Fz (b : Nat) (ls : List (List V)) : V → V → Prop
  | keep {v : V} : noLst v = true → Fz b ls v v
  | lst {k : Nat} {ws ws' : List V} : b ≤ k → ls[k]? = some ws → Fzs b ls ws ws' → Fz b ls (.lst k) (.flst ws')
inductive Fzs (b : Nat) (ls : List (List V)) : List V → List V → Prop
  | nil : Fzs b ls [] []
  | cons {v w : V} {vs ws : List V} : Fz b ls v w → Fzs b ls vs ws → Fzs b ls (v :: vs) (w :: ws)
end
theorem Fzs.keep {b : Nat} {ls : List (List V)} : ∀ {vs : List V}, noLsts vs = true → Fzs b ls vs vs
  | [], _ => .nil
  | v :: vs, h => by
    rw [noLsts, Bool.and_eq_true] at h
    exact .cons (.keep h.1) (Fzs.keep h.2)
theorem Fzs.append {b : Nat} {ls : List (List V)} {vs ws : List V} (h' : Fzs b ls vs ws) : ∀ {vs' ws' : List V}, Fzs b ls vs' ws' → Fzs b ls (vs' ++ vs) (ws' ++ ws)
  | _, _, .nil => h'
  | _, _, .cons a q => .cons a (Fzs.append h' q)
section
variable {W W3 : Wd} {ls : List (List V)} {b : Nat}
mutual
theorem VR.fz (g : Fg W W3) (hal : ∀ (k : Nat) (a : Addr), b ≤ k → W.al[k]? = some a → a ∉ W3.al) (hls : ∀ (k : Nat) (ws : List V), ls[k]? = some ws → ∃ a xs n, W.al[k]? = some a ∧ (a, listOf xs.toArray n) ∈ W.news ∧ VRs W ws xs) :
    ∀ {v out : V} {x : Value}, Fz b ls v out → VR W v x → VR W3 out x
  | _, _, _, .keep h, q => VR.fg g h q
  | _, _, _, .lst h1 h2 h3, .lst q => by
    obtain ⟨a, xs, n, e1, e2, e3⟩ := hls _ _ h2
    rw [q] at e1; cases e1
    exact .flst (g.k ▸ e2) (hal _ _ h1 q) (VRs.fz g hal hls h3 e3)
theorem VRs.fz (g : Fg W W3) (hal : ∀ (k : Nat) (a : Addr), b ≤ k → W.al[k]? = some a → a ∉ W3.al) (hls : ∀ (k : Nat) (ws : List V), ls[k]? = some ws → ∃ a xs n, W.al[k]? = some a ∧ (a, listOf xs.toArray n) ∈ W.news ∧ VRs W ws xs) :
    ∀ {vs outs : List V} {xs : List Value}, Fzs b ls vs outs → VRs W vs xs → VRs W3 outs xs
  | _, _, _, .nil, .nil => .nil
  | _, _, _, .cons h q, .cons h' q' => .cons (VR.fz g hal hls h h') (VRs.fz g hal hls q q')
end
end

abbrev cN (c : Cx) (C : Addr) (zs : List (Addr × Obj)) (el : Bool) (mm : Str → Option Value) : Cx := { c with C := C, frz := zs ++ c.frz, el := el, mm := mm }
section
variable {S : Sx} {c : Cx} {env : Env} {σ σ' : St} {n : Nat} {W W' : Wd} {m m' : Str → Option Value} {s s' : Shared}
theorem R.celKeep (r : R S c σ W m s) : ∀ p ∈ W.news, isCel p.2 = true → Keep W.al [] p := fun p hp hc => ⟨(fun hl hm => by
      obtain ⟨i, hi, e⟩ := List.getElem_of_mem hm
      have hl' : i < σ.ls.length := by rw [← r.len]; exact hi
      obtain ⟨a', ys, k', j1, j2, _⟩ := r.ls i _ (List.getElem?_eq_getElem hl')
      rw [List.getElem?_eq_getElem hi, e] at j1
      cases j1
      have z1 := (r.N _ j2).1
      have z2 := (r.N _ hp).1
      rw [z2] at z1
      have z3 : p.2 = _ := Option.some.inj z1
      rw [z3] at hc
      cases hc), isCel_tab hc, (fun _ q => nomatch q)⟩
theorem R.alIn (r : R S c σ W m s) : ∀ a ∈ W.al, ∃ p ∈ W.news, p.1 = a := fun a ha => by
  obtain ⟨i, hi, e⟩ := List.getElem_of_mem ha
  have hl' : i < σ.ls.length := by rw [← r.len]; exact hi
  obtain ⟨a', ys, k', j1, j2, _⟩ := r.ls i _ (List.getElem?_eq_getElem hl')
  rw [List.getElem?_eq_getElem hi, e] at j1
  cases j1
  exact ⟨_, j2, rfl⟩

theorem R.fgt {C : Addr} {zs : List (Addr × Obj)} {el : Bool} {mm : Str → Option Value} {g : List (List V)} (hz : c.fz = false) (hel : c.el = false) (r : R S c σ W m s) (r' : R S (cN c C zs el mm) σ' W' m' s') (gr : Gr (cN c C zs el mm) [] W W') (hg : σ'.ls = σ.ls ++ g)
    (hloc : Fh W W' ⟨W'.news, W.al⟩ → Le [] W ⟨W'.news, W.al⟩ → ∀ x v, σ.loc.lookup x = some v → ∃ u, VR ⟨W'.news, W.al⟩ v u ∧ LocAt c ⟨W'.news, W.al⟩ m' x u) :
    R S c σ ⟨W'.news, W.al⟩ m' s' ∧ Gr c [] W ⟨W'.news, W.al⟩ ∧ ∀ v out x, Fz σ.ls.length σ'.ls v out → VR W' v x → VR ⟨W'.news, W.al⟩ out x := by
  have len2 : W'.al.length = σ'.ls.length := r'.len
  have hle : W.al.length ≤ W'.al.length := by rw [len2, hg, List.length_append, r.len]; exact Nat.le_add_right _ _
  have alP : W'.al.take W.al.length = W.al := by
    apply List.ext_getElem?
    intro i
    by_cases hi : i < W.al.length
    · rw [List.getElem?_take_of_lt hi, gr.le.al i _ (List.getElem?_eq_getElem hi), List.getElem?_eq_getElem hi]
    · rw [List.getElem?_eq_none (by rw [List.length_take]; omega), List.getElem?_eq_none (by omega)]
  have fg : Fg W' ⟨W'.news, W.al⟩ := ⟨rfl, fun a ha => by rw [← alP] at ha; exact List.mem_of_mem_take ha⟩
  have fh : Fh W W' ⟨W'.news, W.al⟩ := ⟨fg, fun k a e => by
    show W.al[k]? = W'.al[k]?
    rw [e, gr.le.al k a e]⟩
  have le : Le [] W ⟨W'.news, W.al⟩ := ⟨gr.le.k, fun _ _ e => e, fun _ h => .inl h, gr.le.ad⟩
  have nin : ∀ (k : Nat) (a : Addr), σ.ls.length ≤ k → W'.al[k]? = some a → a ∉ W.al := fun k a hk j1 hm => by
    obtain ⟨i, hi, e⟩ := List.getElem_of_mem hm
    have q1 := gr.le.al i a (by rw [← e]; exact List.getElem?_eq_getElem hi)
    have i1 := (List.getElem?_eq_some_iff.mp q1).1
    have := (List.getElem?_inj i1 r'.nd).mp (q1.trans j1.symm)
    rw [← r.len] at hk
    omega
  have hcv : σ.cv = [] := r.cvz hz hel
  refine ⟨⟨r'.F, r'.N, hloc fh le, r'.cel, fun _ _ => hcv, fun x v e => (by rw [hcv] at e; cases e), fun k ws e => ?_, r.len, r.nd, fun p hp => r'.fz p (List.mem_append_right _ hp), fun _ q hq => ⟨fun hm => (r'.fd hz q (List.mem_append_right _ hq)).1 (fg.al _ hm), (r'.fd hz q (List.mem_append_right _ hq)).2⟩,
    fun _ q hq => r'.fx hz q (List.mem_append_right _ hq), fun h => (by rw [hz] at h; cases h), fun h => (by rw [hel] at h; cases h), r'.tabs, r'.gens, r'.os⟩, ⟨le, fun h => (by rw [hz] at h; cases h)⟩, fun v out x h q => VR.fz fg nin r'.ls h q⟩
  obtain ⟨a0, ys0, k0, i1, i2, i3⟩ := r.ls k ws e
  have h' : σ'.ls[k]? = some ws := by rw [hg, List.getElem?_append_left (List.getElem?_eq_some_iff.mp e).1]; exact e
  obtain ⟨a, ys, k', j1, j2, j3⟩ := r'.ls k ws h'
  exact ⟨a, ys, k', (fh.at' k a0 i1).trans j1, j2, VRs.fh fh i3 j3⟩

def fzK (σ : St) (P : V → Prop) : V → St → Prop := fun v σ' => (∃ g, σ'.ls = σ.ls ++ g) ∧ ∃ out, Fz σ.ls.length σ'.ls v out ∧ P out

theorem ev_fg (hz : c.fz = false) (hel : c.el = false) {e : Expr} {P : V → St → Prop} (h : EvS S c env e σ fun v σ' => σ'.loc = σ.loc ∧ fzK σ (fun out => P out σ) v σ') : EvS S c env e σ P := fun W m s Q r q =>
  h W m s Q r fun v x σ' W' m' s' p r' gr e => by
    obtain ⟨hl, ⟨g, hg⟩, out, hf, hp⟩ := p
    obtain ⟨r2, g2, v2⟩ := R.fgt (C := c.C) (zs := []) (el := c.el) (mm := c.mm) hz hel r r' gr hg fun fh le x v e => by
      obtain ⟨u0, h1, _⟩ := r.loc x v e
      obtain ⟨u, h3, h4⟩ := r'.loc x v (by rw [hl]; exact e)
      exact ⟨u, VR.fh fh h1 h3, h4⟩
    exact q _ _ _ _ _ _ hp r2 g2 (v2 _ _ _ hf e)

structure CmN (S : Sx) (c : Cx) (σ : St) (D C : Addr) (cv : List (Str × V)) (outs : List V) (W : Wd) (m : Str → Option Value) (s : Shared) : Prop where
  r : R S c σ W m s
  hD : ∃ ys, s.heap.get? D = some (lst ys) ∧ VRs W outs ys
  hC : ∃ mC, s.heap.Ns C mC ∧ CvR W cv mC
  oD : D ≠ c.L ∧ c.h₀.get? D = none
  oC : C ≠ c.L ∧ c.h₀.get? C = none
  ne : D ≠ C
  off : ∀ p ∈ c.frz ++ W.news, p.1 ≠ D ∧ p.1 ≠ C
theorem CvR.mono {own : List Addr} {cv : List (Str × V)} {mC : Str → Option Value} (l : Le own W W') (h : CvR W cv mC) : CvR W' cv mC := fun x v e => (let ⟨u, a, b⟩ := h x v e; ⟨u, a, b.mono l⟩)
section
variable {D C : Addr} {cv : List (Str × V)} {outs : List V}
theorem CmN.ctx (hz : c.fz = false) (X : CmN S c σ D C cv outs W m s) : ∃ ys oC, s.heap.get? D = some (lst ys) ∧ VRs W outs ys ∧ s.heap.get? C = some oC ∧ (∃ mC, NsObj oC mC ∧ CvR W cv mC) ∧ R S (cN c C [(D, lst ys), (C, oC)] true m) ⟨σ.loc, cv, σ.ls⟩ W m s := by
  obtain ⟨ys, y1, y2⟩ := X.hD
  obtain ⟨mC, c1, c2⟩ := X.hC
  obtain ⟨oC, c3, c4⟩ := ns_obj c1
  have r := X.r
  refine ⟨ys, oC, y1, y2, c3, ⟨mC, c4, c2⟩, ⟨r.F, r.N, r.loc, r.cel, (fun _ h => nomatch h), fun x v e => ?_, r.ls, r.len, r.nd, fun p hp => ?_, fun _ q hq => ?_, fun _ q hq p hp => ?_, fun h => (by rw [show c.fz = true from h] at hz; cases hz), fun _ => rfl, r.tabs, r.gens, r.os⟩⟩
  · obtain ⟨u, a, b⟩ := c2 x v e
    exact ⟨u, oC, mC, b, .tail _ (.head _), c4, a⟩
  · rcases List.mem_append.mp hp with hp | hp
    · rcases List.mem_cons.mp hp with rfl | hp
      · exact ⟨y1, X.oD⟩
      · rw [List.mem_singleton.mp hp]; exact ⟨c3, X.oC⟩
    · exact r.fz p hp
  · have key : ∀ b : Addr, (∀ p ∈ W.news, p.1 ≠ b) → b ∉ W.al ∧ (∀ t ∈ S.tabs, t.1 ≠ b) ∧ ∀ x ∈ c.fenv.cells, x.2 ≠ b := fun b hb =>
      ⟨fun hm => (let ⟨p, hp, e⟩ := r.alIn b hm; hb p hp e), fun t ht e => (let ⟨ps, h1, _⟩ := r.tabs hz t ht; hb _ h1 e), fun x hx e => (let ⟨o, v, h1, _⟩ := r.cel x hx; hb _ h1 e)⟩
    rcases List.mem_append.mp hq with hq | hq
    · rcases List.mem_cons.mp hq with rfl | hq
      · exact key _ fun p hp => (X.off p (List.mem_append_right _ hp)).1
      · rw [List.mem_singleton.mp hq]; exact key _ fun p hp => (X.off p (List.mem_append_right _ hp)).2
    · exact r.fd hz q hq
  · rcases List.mem_append.mp hq with hq | hq
    · rcases List.mem_cons.mp hq with rfl | hq
      · exact (X.off p (List.mem_append_right _ hp)).1
      · rw [List.mem_singleton.mp hq]; exact (X.off p (List.mem_append_right _ hp)).2
    · exact r.fx hz q hq p hp
theorem CmN.back (hz : c.fz = false) (hel : c.el = false) (X : CmN S c σ D C cv outs W m s) {ys : List Value} {oC : Obj} {mC : Str → Option Value} {g : List (List V)} (hv : VRs W outs ys) (hC : NsObj oC mC) (hcv : CvR W cv mC)
    (r' : R S (cN c C [(D, lst ys), (C, oC)] true m) σ' W' m' s') (gr : Gr (cN c C [(D, lst ys), (C, oC)] true m) [] W W') (hg : σ'.ls = σ.ls ++ g) :
    CmN S c σ D C cv outs ⟨W'.news, W.al⟩ m s' ∧ Gr c [] W ⟨W'.news, W.al⟩ ∧ ∀ v out x, Fz σ.ls.length σ'.ls v out → VR W' v x → VR ⟨W'.news, W.al⟩ out x := by
  have em : m' = m := r'.mfix rfl
  subst em
  obtain ⟨r2, g2, v2⟩ := R.fgt hz hel X.r r' gr hg fun fh le x v e => by
    obtain ⟨u, h1, h2⟩ := X.r.loc x v e
    exact ⟨u, h1.mono le, h2.mono fun p hp hc => gr.le.k p hp (X.r.celKeep p hp hc)⟩
  refine ⟨⟨r2, ⟨ys, (r'.fz (D, lst ys) (.head _)).1, hv.mono g2.le⟩, ⟨mC, hC.ns (r'.fz (C, oC) (.tail _ (.head _))).1, hcv.mono g2.le⟩, X.oD, X.oC, X.ne, fun p hp => ?_⟩, g2, v2⟩
  rcases List.mem_append.mp hp with hp | hp
  · exact X.off p (List.mem_append_left _ hp)
  · exact ⟨r'.fx hz (D, lst ys) (.head _) p hp, r'.fx hz (C, oC) (.tail _ (.head _)) p hp⟩

theorem CmN.off' {h' : Heap} {tk : Nat} {wr : List Addr} (X : CmN S c σ D C cv outs W m s) (k : ∀ b o, b ∉ wr → s.heap.get? b = some o → h'.get? b = some o) (hL : c.L ∉ wr) (h0 : ∀ b ∈ wr, c.h₀.get? b = none) (hn : ∀ p ∈ c.frz ++ W.news, p.1 ∉ wr) (hD : D ∉ wr) (hC : C ∉ wr) :
    CmN S c σ D C cv outs W m { s with heap := h', toks := tk } :=
  ⟨X.r.off k hL h0 hn, (let ⟨ys, a, b⟩ := X.hD; ⟨ys, k _ _ hD a, b⟩), (let ⟨mC, a, b⟩ := X.hC; ⟨mC, a.at' fun o e => k _ o hC e, b⟩), X.oD, X.oC, X.ne, X.off⟩
theorem CmN.push {v : V} {x : Value} {M : Shared → Prop} {E : Value → Shared → Prop} {A : Around} (X : CmN S c σ D C cv outs W m s) (hv : VR W v x) (hz : outs.length ≤ 1000) (q : ∀ s', CmN S c σ D C cv (outs ++ [v]) W m s' → (∀ b o, b ≠ D → s.heap.get? b = some o → s'.heap.get? b = some o) → M s') :
    wpAny (model S.prog S.w) A (call (.builtin "list.append") [.ref D, x]) (fun _ s₅ => M s₅) E s := by
  obtain ⟨ys, a, b⟩ := X.hD
  have e := b.length
  refine append_at (hsz := by show ys.toArray.size ≤ sizeLine; rw [List.size_toArray, e, sizeLine_eq]; omega) a fun h' hs ho => ?_
  have keep : ∀ b o, b ∉ [D] → s.heap.get? b = some o → h'.get? b = some o := fun b o hb e => hs.extBut b o (fun q => hb (by rw [q]; exact .head _)) e
  have r2 : R S c σ W m { s with heap := h', toks := s.toks } := X.r.off (wr := [D]) keep (fun h => X.oD.1 (List.mem_singleton.mp h).symm) (fun b hb => by rw [List.mem_singleton.mp hb]; exact X.oD.2) fun p hp h => (X.off p hp).1 (List.mem_singleton.mp h)
  refine q _ ⟨r2, ⟨ys ++ [x], ho.trans (congrArg some (lst_snoc ys x)), b.append (.cons hv .nil)⟩, (let ⟨mC, a, b⟩ := X.hC; ⟨mC, a.at' fun o e => keep _ o (fun h => X.ne (List.mem_singleton.mp h).symm) e, b⟩), X.oD, X.oC, X.ne, X.off⟩ fun b o hb e => keep b o (fun h => hb (List.mem_singleton.mp h)) e
end
end
end Mine

end

section
set_option maxRecDepth 100000
set_option autoImplicit false
set_option linter.unusedVariables false
namespace Mine
open PySem PySem.W PyProof.Rows PySem.Calls PyProof.Rows.LCg
section
variable {S : Sx} {c : Cx} {env : Env} {σ σ' : St} {n : Nat} {W W' : Wd} {m m' : Str → Option Value} {s s' : Shared} {D C : Addr} {cv : List (Str × V)} {outs : List V}
theorem Ok.cN (O : Ok S c n) (C : Addr) (zs : List (Addr × Obj)) (el : Bool) (mm : Str → Option Value) : Ok S (cN c C zs el mm) n := ⟨O.B, O.X, O.T, O.M, O.hA, O.hf, O.hke, O.hh, O.hd, O.hu, O.hl, O.hg, O.hb, O.hcd, O.old⟩
theorem R.pro {zs : List (Addr × Obj)} (hz : c.fz = false) (hzs : News c.h₀ c.L s.heap zs) (hd : ∀ q ∈ zs, ∀ p ∈ W.news, p.1 ≠ q.1) (r : R S c σ W m s) : R S (cN c c.C zs c.el c.mm) σ W m s := by
  refine ⟨r.F, r.N, r.loc, r.cel, r.cvz, fun x v e => (let ⟨u, oC, mC, a1, a2, a3⟩ := r.cv x v e; ⟨u, oC, mC, a1, List.mem_append_right _ a2, a3⟩), r.ls, r.len, r.nd, fun p hp => (List.mem_append.mp hp).elim (hzs p) (r.fz p), fun _ q hq => ?_, fun _ q hq p hp => ?_, r.calm, r.mfix, r.tabs, r.gens, r.os⟩
  · rcases List.mem_append.mp hq with hq | hq
    · exact ⟨fun hm => (let ⟨p, hp, e⟩ := r.alIn _ hm; hd q hq p hp e), fun t ht e => (let ⟨ps, h1, _⟩ := r.tabs hz t ht; hd q hq _ h1 e), fun x hx e => (let ⟨o, v, h1, _⟩ := r.cel x hx; hd q hq _ h1 e)⟩
    · exact r.fd hz q hq
  · rcases List.mem_append.mp hq with hq | hq
    · exact hd q hq p hp
    · exact r.fx hz q hq p hp
theorem R.unp {zs : List (Addr × Obj)} (hz : c.fz = false) (hel : c.el = false) (r : R S (cN c c.C zs c.el c.mm) σ W m s) : R S c σ W m s :=
  ⟨r.F, r.N, r.loc, r.cel, r.cvz, fun x w e => (by rw [r.cvz hz hel] at e; cases e), r.ls, r.len, r.nd, fun p hp => r.fz p (List.mem_append_right _ hp), fun h p hp => r.fd h p (List.mem_append_right _ hp), fun h p hp => r.fx h p (List.mem_append_right _ hp), r.calm, r.mfix, r.tabs, r.gens, r.os⟩
theorem CmN.pro {zs : List (Addr × Obj)} (hz : c.fz = false) (hzs : News c.h₀ c.L s.heap zs) (hd : ∀ q ∈ zs, (∀ p ∈ W.news, p.1 ≠ q.1) ∧ q.1 ≠ D ∧ q.1 ≠ C) (X : CmN S c σ D C cv outs W m s) : CmN S (cN c c.C zs c.el c.mm) σ D C cv outs W m s :=
  ⟨X.r.pro hz hzs (fun q hq => (hd q hq).1), X.hD, X.hC, X.oD, X.oC, X.ne, fun p hp => by
    rcases List.mem_append.mp hp with hp | hp
    · rcases List.mem_append.mp hp with hp | hp
      · exact (hd p hp).2
      · exact X.off p (List.mem_append_left _ hp)
    · exact X.off p (List.mem_append_right _ hp)⟩
theorem CmN.unp {zs : List (Addr × Obj)} (hz : c.fz = false) (hel : c.el = false) (X : CmN S (cN c c.C zs c.el c.mm) σ D C cv outs W m s) : CmN S c σ D C cv outs W m s :=
  ⟨X.r.unp hz hel, X.hD, X.hC, X.oD, X.oC, X.ne, fun p hp => X.off p ((List.mem_append.mp hp).elim (fun h => List.mem_append_left _ (List.mem_append_right _ h)) fun h => List.mem_append_right _ h)⟩
theorem CmN.less {cvk : List (Str × V)} (hck : ∀ x v, cvk.lookup x = some v → cv.lookup x = some v) (X : CmN S c σ D C cv outs W m s) : CmN S c σ D C cvk outs W m s :=
  ⟨X.r, X.hD, (let ⟨mC, a, b⟩ := X.hC; ⟨mC, a, fun x v e => b x v (hck x v e)⟩), X.oD, X.oC, X.ne, X.off⟩

def AsgN (S : Sx) (c : Cx) (scope : Scope) (cl : List (Str × Addr)) (target : Expr) (items : List It) (cvb : List (Str × V)) : Prop :=
  ∀ (W : Wd) (C : Addr) (i : Nat) (it : It) (v : Value) (s : Shared) (mC : Str → Option Value) (Q : Unit → Shared → Prop) (E : Value → Shared → Prop), items[i]? = some it → ItR W s.heap it v → s.heap.Ns C mC → CvR W cvb mC →
    (∀ h' tk m', h'.Ns C m' → CvR W (cvOf target it ++ cvb) m' → (∀ b o, b ≠ C → s.heap.get? b = some o → h'.get? b = some o) → Q () { s with heap := h', toks := tk }) → wpAny (model S.prog S.w) c.A (assign target (compEnvC scope cl C c.fenv) v) Q E s
theorem asgN_nil (O : Ok S c n) {scope : Scope} {cl : List (Str × Addr)} {target : Expr} {items : List It} (hk : scope.kind = .function) (ht : TgOk scope target items) : AsgN S c scope cl target items [] := fun W C i it v s mC Q E hit hr hn _ q => by
  refine asgC (S := S) (c := c) (env := c.fenv) (W := W) (P := fun j v h => j = i ∧ ItR W h it v) (cl := cl) O.hh hk ht (fun j v h hp => ?_) C i v s mC _ _ ⟨rfl, hr⟩ hn fun h' tk' m' hn' hb hs => ?_
  · obtain ⟨rfl, hp⟩ := hp; exact ⟨it, hit, hp⟩
  · obtain ⟨it', h2, h3⟩ := hb
    rw [hit] at h2; cases h2
    exact q h' tk' m' hn' (by rw [List.append_nil]; exact h3) hs
theorem asgN_name {scope : Scope} {cl : List (Str × Addr)} {x : Str} {px : Pos} {items : List It} {cvb : List (Str × V)} (hk : scope.kind = .function) (hx : scope.names.lookup x = some .local) (hi : ∀ e ∈ items, ∃ v, e = .val v) (hb : cvb.lookup x = none) : AsgN S c scope cl (.Name x px) items cvb := fun W C i it v s mC Q E hit hr hn hcb q => by
  obtain ⟨w, rfl⟩ := hi it (List.mem_of_getElem? hit)
  refine wpAny_assign_Name (wpAny_storeName_local (lookup_relabel_local hx) hn (fun h₃ hn₃ hs₃ => q h₃ _ _ hn₃ (fun z u e => ?_) hs₃.extBut) (by simp [compEnvC, relabel, hk]))
  simp only [cvOf, List.cons_append, List.nil_append, List.lookup_cons] at e
  cases zx : z == x with
  | true => rw [zx] at e; cases e; exact ⟨v, by simp [beq_iff_eq.mp zx], hr⟩
  | false =>
    rw [zx] at e
    obtain ⟨u', a, b⟩ := hcb z u e
    exact ⟨u', by simp only [beq_eq_false_iff_ne.mp zx, if_false]; exact a, b⟩

def ActN (S : Sx) (c : Cx) (σ : St) (D C : Addr) (cv cvk : List (Str × V)) (o : List V) (T : Wk) : Prop :=
  ∀ (W : Wd) (m : Str → Option Value) (s : Shared) (outs : List V) (E : Value → Shared → Prop) (Q : Shared → Prop), outs.length + o.length ≤ 1000 → CmN S c σ D C cv outs W m s →
    (∀ W' m' s', CmN S c σ D C cvk (outs ++ o) W' m' s' → Gr c [] W W' → Q s') → T E Q s

def EltN (S : Sx) (c : Cx) (n : Nat) (scope : Scope) (cl : List (Str × Addr)) (elt : Expr) (cv : List (Str × V)) (σ : St) (P : V → Prop) : Prop := ∀ c' : Cx, c'.fenv = c.fenv → c'.fz = false → Ok S c' n → EvS S c' (compEnvC scope cl c'.C c'.fenv) elt ⟨σ.loc, cv, σ.ls⟩ (fzK σ P)
def TstN (S : Sx) (c : Cx) (n : Nat) (scope : Scope) (cl : List (Str × Addr)) (t : Expr) (cv : List (Str × V)) (σ : St) (b : Bool) : Prop := ∀ c' : Cx, c'.fenv = c.fenv → c'.fz = false → Ok S c' n → TestS S c' (compEnvC scope cl c'.C c'.fenv) t ⟨σ.loc, cv, σ.ls⟩ fun b' σ' => b' = b ∧ ∃ g, σ'.ls = σ.ls ++ g
section
variable {scope : Scope} {cl : List (Str × Addr)} {elt t : Expr}
theorem act0 (O : Ok S c n) (hz : c.fz = false) (hel : c.el = false) {cvk : List (Str × V)} (hck : ∀ x v, cvk.lookup x = some v → cv.lookup x = some v) {out : V} (h : EltN S c n scope cl elt cv σ fun v => v = out) : ActN S c σ D C cv cvk [out] (Wk0 S.prog S.w c.A elt (.ref D) (compEnvC scope cl C c.fenv)) := fun W m s outs E Q hlen X q => by
  obtain ⟨ys, oC, y1, y2, c1, ⟨mC, c2, c3⟩, r⟩ := X.ctx hz
  refine wpAny_mono (h (cN c C [(D, lst ys), (C, oC)] true m) rfl hz (O.cN C [(D, lst ys), (C, oC)] true m) W m s _ r fun v x σ' W' m' s' p r' gr e => ?_) (fun _ _ z => z) (fun _ _ z => z.elim)
  obtain ⟨⟨g, hg⟩, o, hf, rfl⟩ := p
  obtain ⟨X', g', v'⟩ := X.back hz hel y2 c2 c3 r' gr hg
  exact X'.push (v' _ _ _ hf e) (by simp at hlen; omega) fun s'' X'' _ => q _ _ _ (X''.less hck) g'
theorem act1 (O : Ok S c n) (hz : c.fz = false) (hel : c.el = false) {cvk : List (Str × V)} (hck : ∀ x v, cvk.lookup x = some v → cv.lookup x = some v) {b : Bool} {o : List V} (ht : TstN S c n scope cl t cv σ b) (h : if b = true then ∃ out, o = [out] ∧ EltN S c n scope cl elt cv σ fun v => v = out else o = []) :
    ActN S c σ D C cv cvk o (Wk1 S.prog S.w c.A t elt (.ref D) (compEnvC scope cl C c.fenv)) := fun W m s outs E Q hlen X q => by
  obtain ⟨ys, oC, y1, y2, c1, ⟨mC, c2, c3⟩, r⟩ := X.ctx hz
  refine wpAny_mono (ht (cN c C [(D, lst ys), (C, oC)] true m) rfl hz (O.cN C [(D, lst ys), (C, oC)] true m) W m s _ r fun b1 b2 σ' W' m' s' p r' gr e => ?_) (fun _ _ z => z) (fun _ _ z => z.elim)
  obtain ⟨rfl, g, hg⟩ := p
  have e' : b2 = b1 := e
  subst e'
  obtain ⟨X', g', _⟩ := X.back hz hel y2 c2 c3 r' gr hg
  cases b2 with
  | true =>
    rw [if_pos rfl] at h ⊢
    obtain ⟨out, rfl, h⟩ := h
    exact act0 O hz hel hck h _ _ _ _ _ _ hlen X' fun W'' m'' s'' X'' g'' => q _ _ _ X'' (g'.trans g'')
  | false =>
    rw [if_neg Bool.false_ne_true] at h ⊢
    subst h
    exact q _ _ _ (by rw [List.append_nil]; exact X'.less hck) g'
end
theorem loopC (hz : c.fz = false) (hel : c.el = false) (O : Ok S c n) {scope : Scope} {cl : List (Str × Addr)} {e : Expr} {d : Nat} {target : Expr} {I : Addr} {T : Wk} {items : List It} {fp wr : List Addr} {P Md : Nat → Value → Heap → Prop} {St : Nat → Heap → Prop} {W₁ : Wd} {h₁ : Heap} {outs₀ : List V} {os : List (List V)} {R' : Result → Shared → Prop}
    {cvb : List (Str × V)} (hA : AsgN S c scope cl target items cvb)
    (L : LoopN S.prog S.w c.A e d target (.ref I) (.ref D) (compEnvC scope cl C c.fenv) T) (X : Sr S c true target items W₁ h₁ I fp wr P Md St) (hDf : D ∉ fp) (hCf : C ∉ fp) (hos : os.length = items.length) (hsz : outs₀.length + os.flatten.length ≤ 1000)
    (acts : ∀ (i : Nat) it o, items[i]? = some it → os[i]? = some o → ∀ zs, ActN S (cN c c.C zs c.el c.mm) σ D C (cvOf target it ++ cvb) cvb o T)
    (X₀ : CmN S c σ D C cvb outs₀ W m s) (hW : Gr c [] W₁ W) (hst : St 0 s.heap) (hnw : ∀ p ∈ W.news, p.1 ∉ wr)
    (q : ∀ W' m' s', CmN S c σ D C cvb (outs₀ ++ os.flatten) W' m' s' → Gr c [] W₁ W' → R' (.ok .next) s') :
    codeAny (model S.prog S.w) c.A (.compLoop e d (.ref I) (.ref D) (compEnvC scope cl C c.fenv)) R' s := by
  have hLw : c.L ∉ wr := fun h => X.L (X.T.sub _ h)
  have hDw : D ∉ wr := fun h => hDf (X.T.sub _ h)
  have hCw : C ∉ wr := fun h => hCf (X.T.sub _ h)
  refine L R' (fun k s' => ∃ i Wi mi, St i s'.heap ∧ CmN S c σ D C cvb (outs₀ ++ (os.take i).flatten) Wi mi s' ∧ (∀ p ∈ Wi.news, p.1 ∉ wr) ∧ Gr c [] W₁ Wi ∧ i ≤ items.length ∧ k = items.length + 1 - i) ?_ (items.length + 1) s
    ⟨0, W, m, hst, by rw [List.take_zero, List.flatten_nil, List.append_nil]; exact X₀, hnw, hW, Nat.zero_le _, rfl⟩
  rintro k s' ⟨i, Wi, mi, sti, Xi, nwi', gi, hi, rfl⟩
  have nwi : ∀ p ∈ c.frz ++ Wi.news, p.1 ∉ wr := fun p hp => by
    rcases List.mem_append.mp hp with hp | hp
    · exact X.nw p (List.mem_append_left _ hp)
    · exact nwi' p hp
  by_cases hlt : i < items.length
  · refine X.T.item i _ _ _ hlt sti fun v h₃ tk₃ hMd hk₃ => ?_
    refine X.T.go i v _ _ _ hMd fun h₄ hP hst₄ hk₄ => ?_
    have X4 : CmN S c σ D C cvb (outs₀ ++ (os.take i).flatten) Wi mi { s' with heap := h₄, toks := tk₃ } := Xi.off' (wr := wr) (fun b o hb e => hk₄ b o hb (hk₃ b o hb e)) hLw X.wr0 nwi hDw hCw
    obtain ⟨it, hit, hitR⟩ := X.it i v h₄ hlt hP
    have hit' : ItR Wi h₄ it v := hitR.mono gi.le
    obtain ⟨mC, n1, n2⟩ := X4.hC
    refine hA Wi C i it v _ mC _ _ hit hit' n1 n2 fun h₅ tk₅ mC₅ hn₅ hcv5 hs₅ => ?_
    have keep5 : ∀ b o, b ∉ [C] → h₄.get? b = some o → h₅.get? b = some o := fun b o hb e => hs₅ b o (fun q => hb (by rw [q]; exact .head _)) e
    have X5 : CmN S c σ D C (cvOf target it ++ cvb) (outs₀ ++ (os.take i).flatten) Wi mi { s' with heap := h₅, toks := tk₅ } := by
      have r5 : R S c σ Wi mi { s' with heap := h₅, toks := tk₅ } := R.off (s := { s' with heap := h₄, toks := tk₃ }) (h' := h₅) (wr := [C]) (tk := tk₅) X4.r keep5 (fun h => X4.oC.1 (List.mem_singleton.mp h).symm) (fun b hb => by rw [List.mem_singleton.mp hb]; exact X4.oC.2) fun p hp h => (X4.off p hp).2 (List.mem_singleton.mp h)
      refine ⟨r5, (let ⟨ys, a, b⟩ := X4.hD; ⟨ys, hs₅ _ _ X4.ne a, b⟩), ⟨mC₅, hn₅, hcv5⟩, X4.oD, X4.oC, X4.ne, X4.off⟩
    have sti5 : St (i + 1) h₅ := X.T.frame _ _ _ hst₄ fun b hb o e => hs₅ b o (fun q => hCf (q ▸ hb)) e
    have hio : i < os.length := by omega
    have Nown : News c.h₀ c.L h₅ (PyProof.Rows.ownOf c.h₀ wr h₅) := news_ownOf hLw
    have X6 := X5.pro (zs := PyProof.Rows.ownOf c.h₀ wr h₅) hz Nown fun q hq => by
      have hb := ownOf_sub q hq
      exact ⟨fun p hp e => nwi' p hp (e ▸ hb), fun e => hDw (e ▸ hb), fun e => hCw (e ▸ hb)⟩
    have owned : ∀ b ∈ wr, ∃ o, (b, o) ∈ PyProof.Rows.ownOf c.h₀ wr h₅ := fun b hb => by
      obtain ⟨o, ho⟩ := X.ex _ _ sti5 b hb
      exact ⟨o, mem_ownOf hb (X.wr0 b hb) ho⟩
    have hfl : (os.take (i + 1)).flatten = (os.take i).flatten ++ os[i] := by rw [List.take_add_one, List.getElem?_eq_getElem hio, List.flatten_append]; simp
    have hle : (os.take (i + 1)).flatten.length ≤ os.flatten.length := by
      have := congrArg List.length (congrArg List.flatten (List.take_append_drop (i + 1) os))
      rw [List.flatten_append, List.length_append] at this
      omega
    refine acts i it os[i] hit (List.getElem?_eq_getElem hio) _ _ _ _ _ _ _ (by rw [List.length_append]; rw [hfl, List.length_append] at hle; omega) X6 fun W7 m7 s7 X7 g7 => ?_
    refine ⟨items.length + 1 - (i + 1), by omega, i + 1, W7, m7, ?_, ?_, fun p hp hb => ?_, ?_, hlt, rfl⟩
    · refine X.T.frame _ _ _ sti5 fun b hb o e => ?_
      rcases X.src rfl b hb with hw | ⟨o', ho', hk'⟩
      · exact (X7.r.fz _ (List.mem_append_left _ (mem_ownOf hw (X.wr0 b hw) e))).1
      · have a1 := gi.le.k _ ho' (hk' _)
        have a2 := (X5.r.N _ a1).1
        rw [show h₅.get? b = some o from e] at a2
        cases a2
        exact (X7.r.N _ (g7.le.k _ a1 ((hk' _).go gi.le ho'))).1
    · rw [hfl, ← List.append_assoc]; exact X7.unp hz hel
    · obtain ⟨o, ho⟩ := owned _ hb
      exact X7.r.fx hz _ (List.mem_append_left _ ho) p hp rfl
    · exact gi.trans ⟨g7.le, fun h => (by rw [hz] at h; cases h)⟩
  · have hin : i = items.length := by omega
    subst hin
    refine X.T.done _ _ _ sti fun h₃ tk₃ hk₃ => ?_
    rw [← hos, List.take_length] at Xi
    exact q _ _ _ (Xi.off' (wr := wr) (fun b o hb e => hk₃ b o hb e) hLw X.wr0 nwi hDw hCw) gi
end
end Mine

end

section
set_option maxRecDepth 100000
set_option autoImplicit false
set_option linter.unusedVariables false
namespace Mine
open PySem PySem.W PyProof.Rows PySem.Calls PyProof.Rows.LCg
section
variable {S : Sx} {c : Cx} {env : Env} {σ σ' : St} {n : Nat} {W W' : Wd} {m m' : Str → Option Value} {s s' : Shared} {D C : Addr} {cv : List (Str × V)} {outs : List V}

theorem act2 (O : Ok S c n) (hz : c.fz = false) (hel : c.el = false) {scope : Scope} {cl : List (Str × Addr)} {g1 : Comprehension} {elt t2 i2 cond : Expr} {pos : Pos} {cvk : List (Str × V)} {items : List It} {os : List (List V)} {rv : V}
    (hck : ∀ x v, cvk.lookup x = some v → cv.lookup x = some v)
    (hL : ∀ it, LoopN S.prog S.w c.A (.ListComp elt [g1, ⟨t2, i2, [cond], 0⟩] scope pos) 1 t2 it (.ref D) (compEnvC scope cl C c.fenv) (Wk1 S.prog S.w c.A cond elt (.ref D) (compEnvC scope cl C c.fenv)))
    (hA : AsgN S c scope cl t2 items cv) (hos : os.length = items.length) 
    (hi : EltN S c n scope cl i2 cv σ fun v => v = rv)
    (hsrc : ∀ (c' : Cx) (σ' : St) W m s xv, Ok S c' n → R S c' σ' W m s → VR W rv xv → PySrc S c' true t2 items W xv s)
    (acts : ∀ (i : Nat) it o, items[i]? = some it → os[i]? = some o → ∀ zs, ActN S (cN c c.C zs c.el c.mm) σ D C (cvOf t2 it ++ cv) cv o (Wk1 S.prog S.w c.A cond elt (.ref D) (compEnvC scope cl C c.fenv))) :
    ActN S c σ D C cv cvk os.flatten (Wk2 S.prog S.w c.A (.ListComp elt [g1, ⟨t2, i2, [cond], 0⟩] scope pos) i2 (.ref D) (compEnvC scope cl C c.fenv)) := fun W m s outs E Q hlen X q => by
  obtain ⟨ys, oC, y1, y2, c1, ⟨mC, c2, c3⟩, r⟩ := X.ctx hz
  refine wpAny_mono (hi (cN c C [(D, lst ys), (C, oC)] true m) rfl hz (O.cN C [(D, lst ys), (C, oC)] true m) W m s _ r fun v x σ' W' m' s' p r' gr e => ?_) (fun _ _ z => z) (fun _ _ z => z.elim)
  obtain ⟨⟨g, hg⟩, o, hf, ho⟩ := p
  obtain ⟨X', g', v'⟩ := X.back hz hel y2 c2 c3 r' gr hg
  have vx := v' _ _ _ hf e
  rw [ho] at vx
  obtain ⟨ys2, oC2, z1, z2, d1, ⟨mC2, d2, d3⟩, r2⟩ := X'.ctx hz
  refine hsrc (cN c C [(D, lst ys2), (C, oC2)] true m) _ _ _ _ x (O.cN C _ true m) r2 vx E _ fun h₂ I fp wr P Md St up Y => ?_
  have hDw : D ∉ wr := Y.nw (D, lst ys2) (.head _)
  have hCw : C ∉ wr := Y.nw (C, oC2) (.tail _ (.head _))
  have inN : ∀ b ∈ fp, b ∈ wr ∨ ∃ o, (b, o) ∈ W'.news := fun b hb => (Y.src rfl b hb).imp id fun h => (let ⟨o, a, _⟩ := h; ⟨o, a⟩)
  have hDf : D ∉ fp := fun h => (inN _ h).elim hDw fun ⟨o, a⟩ => (X'.off _ (List.mem_append_right _ a)).1 rfl
  have hCf : C ∉ fp := fun h => (inN _ h).elim hCw fun ⟨o, a⟩ => (X'.off _ (List.mem_append_right _ a)).2 rfl
  have Y' : Sr S c true t2 items ⟨W'.news, W.al⟩ h₂ I fp wr P Md St := ⟨Y.T, Y.self, Y.st, Y.lt, Y.L, Y.wr0, fun p hp => Y.nw p ((List.mem_append.mp hp).elim (fun h => List.mem_append_left _ (List.mem_append_right _ h)) fun h => List.mem_append_right _ h), Y.nt, Y.ex, Y.src, Y.it⟩
  have X2 : CmN S c σ D C cv outs ⟨W'.news, W.al⟩ m { s' with heap := h₂ } := CmN.off' (tk := s'.toks) (wr := []) X' (fun b o _ e => up b o e) (fun h => nomatch h) (fun _ h => nomatch h) (fun _ _ h => nomatch h) (fun h => nomatch h) (fun h => nomatch h)
  have go : codeAny (model S.prog S.w) c.A (.compLoop (.ListComp elt [g1, ⟨t2, i2, [cond], 0⟩] scope pos) 1 (.ref I) (.ref D) (compEnvC scope cl C c.fenv)) (fun r s' => match r with | .ok _ => Q s' | .error _ => False) { s' with heap := h₂ } :=
    loopC hz hel O hA (hL (.ref I)) Y' hDf hCf hos hlen acts X2 .refl Y.st (fun p hp => Y'.nw p (List.mem_append_right _ hp)) fun W3 m3 s3 X3 g3 => q _ _ _ (X3.less hck) (g'.trans g3)
  exact startIn go (Y.self _ _ _ Y.st go)

theorem coreN (O : Ok S c n) (hz : c.fz = false) (hel : c.el = false) {scope : Scope} {cl : List (Str × Addr)} {elt target iter : Expr} {ifs : List Expr} {rest : List Comprehension} {pos : Pos} {items : List It} {os : List (List V)} {T : Value → Env → Wk} {I : Addr} {fp wr : List Addr} {P Md : Nat → Value → Heap → Prop} {St : Nat → Heap → Prop} {RR : Value → Addr → Result → Shared → Prop} {E : Value → Shared → Prop} {h₂ : Heap}
    (hcell : ∀ y ∈ scope.names, y.2 ≠ .cell) (hk : scope.kind = .function) (ht : TgOk scope target items) (hL : ∀ it acc env, LoopN S.prog S.w c.A (.ListComp elt (⟨target, iter, ifs, 0⟩ :: rest) scope pos) 0 target it acc env (T acc env))
    (hos : os.length = items.length) (hsz : os.flatten.length ≤ 1000) (acts : ∀ (D C : Addr) (i : Nat) it o, items[i]? = some it → os[i]? = some o → ∀ zs, ActN S (cN c c.C zs c.el c.mm) σ D C (cvOf target it) [] o (T (.ref D) (compEnvC scope cl C c.fenv)))
    (r : R S c σ W m s) (up : ∀ b o, s.heap.get? b = some o → h₂.get? b = some o) (Y : Sr S c true target items W h₂ I fp wr P Md St)
    (q : ∀ D C W' m' s', CmN S c σ D C [] os.flatten W' m' s' → Gr c [] W W' → RR (.ref D) C (.ok .next) s') :
    wpAny (model S.prog S.w) c.A (newList []) (fun acc s₃ => wpAny (model S.prog S.w) c.A (newFunctionEnv scope c.fenv.globals cl [] c.fenv.qual none .none (some c.fenv)) (fun cenv s₄ =>
      codeAny (model S.prog S.w) c.A (.compStart (.ListComp elt (⟨target, iter, ifs, 0⟩ :: rest) scope pos) 0 (.ref I) acc { cenv with scope := relabel scope c.fenv }) (RR acc cenv.locals) s₄) E s₃) E { s with heap := h₂ } := by
  have r₂ : R S c σ W m { s with heap := h₂ } := r.keep (tk := s.toks) up
  refine wpAny_newObj_type (wpAny_newFunctionEnv hcell (by intro y hy; simp at hy) (fun h₁ hns₁ hsb₁ => ?_) hk)
  dsimp only at hns₁ hsb₁ ⊢
  generalize hH2 : h₂.push { cls := .type "list", dict := none, data := .seq ([] : List Value).toArray } = H2 at hns₁ hsb₁ ⊢
  have hC : H2.objs.size = h₂.objs.size + 1 := by rw [← hH2, Heap.size_push]
  have hDC : h₂.objs.size ≠ H2.objs.size := by rw [hC]; exact Nat.ne_of_lt (Nat.lt_succ_self _)
  have below : ∀ b, b < h₂.objs.size → b ≠ H2.objs.size ∧ b ≠ h₂.objs.size := fun b hb => ⟨by rw [hC]; exact Nat.ne_of_lt (Nat.lt_succ_of_lt hb), Nat.ne_of_lt hb⟩
  have old : ∀ b o, h₂.get? b = some o → h₁.get? b = some o := fun b o e => hsb₁.extBut b o (below b (Heap.lt_size e)).1 (Heap.get?_push_of_some _ (hH2 ▸ Heap.get?_push_of_some _ e))
  have hacc : h₁.get? h₂.objs.size = some (lst []) := hsb₁.extBut _ _ hDC (Heap.get?_push_of_some _ (hH2 ▸ Heap.get?_push_size _ rfl))
  have fresh : ∀ a, h₂.objs.size ≤ a → a ≠ c.L ∧ c.h₀.get? a = none := fun a ha => ⟨fun e => Nat.lt_irrefl _ (Nat.lt_of_lt_of_le r₂.F.ns.lt (e ▸ ha)), by
    cases e : c.h₀.get? a with
    | none => rfl
    | some o' => exact absurd (Heap.lt_size (r₂.F.keep a o' e)) (Nat.not_lt.mpr ha)⟩
  have X : CmN S c σ h₂.objs.size H2.objs.size [] [] W m { s with heap := h₁, toks := s.toks + ([] : List (Str × Value)).length } :=
    ⟨R.keep (s := { s with heap := h₂ }) (h' := h₁) (tk := s.toks + ([] : List (Str × Value)).length) r₂ old, ⟨[], hacc, .nil⟩, ⟨_, hns₁, fun _ _ e => nomatch e⟩, fresh _ (Nat.le_refl _), fresh _ (by rw [hC]; exact Nat.le_succ _), hDC, fun p hp => (below _ (Heap.lt_size (r₂.all p hp).1)).symm⟩
  have st₁ : St 0 h₁ := Y.T.frame _ _ _ Y.st fun b _ o e => old b o e
  have go : codeAny (model S.prog S.w) c.A (.compLoop (.ListComp elt (⟨target, iter, ifs, 0⟩ :: rest) scope pos) 0 (.ref I) (.ref h₂.objs.size) (compEnvC scope cl H2.objs.size c.fenv)) (RR (.ref h₂.objs.size) H2.objs.size) { s with heap := h₁, toks := s.toks + ([] : List (Str × Value)).length } :=
    loopC hz hel O (asgN_nil O hk ht) (hL _ _ _) Y (fun h => Nat.lt_irrefl _ (Y.lt _ h)) (fun h => by have := Y.lt _ h; rw [hC] at this; exact Nat.lt_irrefl _ (Nat.lt_of_succ_lt this)) hos (by simpa using hsz) (fun i it o a b zs => by rw [List.append_nil]; exact acts _ _ i it o a b zs) X .refl st₁ (fun p hp => Y.nw p (List.mem_append_right _ hp)) fun W' m' s' X' g' => q _ _ _ _ _ (by simpa using X') g'
  exact codeAny_compStart_list go (Y.self _ _ _ st₁ go)

theorem CmN.fin (hz : c.fz = false) (X : CmN S c σ D C cv outs W m s) : ∃ ys, R S c σ ⟨(D, lst ys) :: W.news, W.al⟩ m s ∧ Gr c [] W ⟨(D, lst ys) :: W.news, W.al⟩ ∧ VR ⟨(D, lst ys) :: W.news, W.al⟩ (.flst outs) (.ref D) ∧ ∀ p ∈ c.frz ++ ((D, lst ys) :: W.news), p.1 ≠ C := by
  obtain ⟨ys, y1, y2⟩ := X.hD
  have r := X.r
  have le : Le [] W ⟨(D, lst ys) :: W.news, W.al⟩ := ⟨fun p hp _ => .tail _ hp, fun _ _ h => h, fun _ h => .inl h, fun p hp => ⟨p, .tail _ hp, rfl⟩⟩
  refine ⟨ys, ⟨r.F, fun p hp => ?_, fun x v e => ?_, fun x e => (let ⟨o, v, h1, h2⟩ := r.cel x e; ⟨o, v, .tail _ h1, h2⟩), r.cvz, fun x v e => ?_, fun k ws e => ?_, r.len, r.nd, r.fz, r.fd, fun h q hq p hp => ?_, r.calm, r.mfix, fun h t ht => (let ⟨ps, h1, h2⟩ := r.tabs h t ht; ⟨ps, .tail _ h1, h2⟩), r.gens, r.os⟩, ⟨le, fun h => (by rw [hz] at h; cases h)⟩, .flst (.head _) (fun h => (let ⟨p, hp, e⟩ := r.alIn _ h; (X.off p (List.mem_append_right _ hp)).1 e)) (y2.mono le), fun p hp => ?_⟩
  · rcases List.mem_cons.mp hp with rfl | hp
    · exact ⟨y1, X.oD⟩
    · exact r.N p hp
  · obtain ⟨u, h1, h2⟩ := r.loc x v e; exact ⟨u, h1.mono le, h2.mono fun p hp _ => .tail _ hp⟩
  · obtain ⟨u, oC, mC, h1, h2⟩ := r.cv x v e; exact ⟨u, oC, mC, h1.mono le, h2⟩
  · obtain ⟨a, xs, k', h1, h2, h3⟩ := r.ls k ws e; exact ⟨a, xs, k', h1, .tail _ h2, h3.mono le⟩
  · rcases List.mem_cons.mp hp with rfl | hp
    · exact (X.off q (List.mem_append_left _ hq)).1.symm
    · exact r.fx h q hq p hp
  · rcases List.mem_append.mp hp with hp | hp
    · exact (X.off p (List.mem_append_left _ hp)).2
    · rcases List.mem_cons.mp hp with rfl | hp
      · exact X.ne
      · exact (X.off p (List.mem_append_right _ hp)).2

def CompN (items : List It) (A : It → List V → Prop) (K : List V → Prop) : Prop := ∃ os : List (List V), os.length = items.length ∧ (∀ (i : Nat) it o, items[i]? = some it → os[i]? = some o → A it o) ∧ os.flatten.length ≤ 1000 ∧ K os.flatten
section
variable {scope : Scope} {cl : List (Str × Addr)} {elt target iter : Expr} {ifs : List Expr} {rest : List Comprehension} {pos : Pos} {T : Value → Env → Wk} {A : St → It → List V → Prop}

theorem ev_cN (O : Ok S c n) (hz : c.fz = false) (hel : c.el = false) {P : V → St → Prop} (hclos : closureFor scope c.fenv = pure cl) (hcell : ∀ y ∈ scope.names, y.2 ≠ .cell) (hk : scope.kind = .function)
    (hnames : ∀ y ∈ scope.names, y.2 = .local → scope.names.lookup y.1 = some .local) (hs : ∀ x, foldedSetIterable iter c.fenv x = pure x)
    (hL : ∀ it acc env, LoopN S.prog S.w c.A (.ListComp elt (⟨target, iter, ifs, 0⟩ :: rest) scope pos) 0 target it acc env (T acc env))
    (hA : ∀ (σ : St) it o, A σ it o → ∀ (D C : Addr) zs, ActN S (cN c c.C zs c.el c.mm) σ D C (cvOf target it) [] o (T (.ref D) (compEnvC scope cl C c.fenv)))
    (h : IteS S c true c.fenv iter target σ fun items σ₁ => TgOk scope target items ∧ CompN items (A σ₁) fun outs => P (.flst outs) σ₁) : EvS S c c.fenv (.ListComp elt (⟨target, iter, ifs, 0⟩ :: rest) scope pos) σ P := fun W m s Q r q => by
  rw [eval_ListComp]
  refine wpAny_comprehension_free (use := none) rfl hs hclos hk hnames (h W m s _ r fun items xv σ₁ W₁ m₁ s₁ h₁ r₁ l₁ X₁ => ?_)
  obtain ⟨ht, os, ho, ha, hsz, hP⟩ := h₁
  refine X₁ _ _ fun h₂ I fp wr P' Md St up Y => ?_
  refine coreN O hz hel hcell hk ht hL ho hsz (fun D C i it o a b zs => hA σ₁ it o (ha i it o a b) D C zs) r₁ up Y fun D C W' m' s' X g => ?_
  obtain ⟨ys, r2, g2, v2, off⟩ := X.fin hz
  obtain ⟨mC, hn, _⟩ := X.hC
  refine ⟨mC, hn, fun h'' hs'' => q _ _ _ _ _ _ hP (r2.off (wr := [C]) (tk := s'.toks) (fun b o hb e => hs''.extBut b o (fun z => hb (by rw [z]; exact .head _)) e) (fun h => X.oC.1 (List.mem_singleton.mp h).symm) (fun b hb => by rw [List.mem_singleton.mp hb]; exact X.oC.2) fun p hp h => off p hp (List.mem_singleton.mp h)) ((l₁.trans g).trans g2) v2⟩
theorem st_cN (O : Ok S c n) (hz : c.fz = false) (hel : c.el = false) {spos : Pos} {y : Str} {py : Pos} {E : Env} {P : Fl → St → Prop} (hsw : swapsWith (.ListComp elt (⟨target, iter, ifs, 0⟩ :: rest) scope pos) (some (.Name y py)) spos.line c.fenv = pure true) (hclos : closureFor scope c.fenv = pure cl) (hcell : ∀ y ∈ scope.names, y.2 ≠ .cell) (hk : scope.kind = .function)
    (hnames : ∀ y ∈ scope.names, y.2 = .local → scope.names.lookup y.1 = some .local) (hs : ∀ x, foldedSetIterable iter c.fenv x = pure x) (hE : c.fenv = E) (hy : E.kindOf y = some .local) (hyc : E.cells.lookup y = none)
    (hL : ∀ it acc env, LoopN S.prog S.w c.A (.ListComp elt (⟨target, iter, ifs, 0⟩ :: rest) scope pos) 0 target it acc env (T acc env))
    (hA : ∀ (σ : St) it o, A σ it o → ∀ (D C : Addr) zs, ActN S (cN c c.C zs c.el c.mm) σ D C (cvOf target it) [] o (T (.ref D) (compEnvC scope cl C c.fenv)))
    (h : IteS S c true c.fenv iter target σ fun items σ₁ => TgOk scope target items ∧ CompN items (A σ₁) fun outs => P .next (setL y (.flst outs) σ₁)) : StS S c (.Assign [.Name y py] (.ListComp elt (⟨target, iter, ifs, 0⟩ :: rest) scope pos) spos) σ P := fun W m s Q r q => by
  subst hE
  rw [exec_Assign_Name_used _ _ _ _ hsw]
  refine wpAny_bind (wpAny_standAt (wpAny_bind ?_))
  show wpAny _ c.A (do let _ ← comprehension (.ListComp elt (⟨target, iter, ifs, 0⟩ :: rest) scope pos) scope c.fenv _ (newList []) false (eval iter c.fenv) (some (assign (.Name y py) c.fenv))) _ _ s
  refine wpAny_bind (wpAny_mono (wpAny_comprehension_free (use := some (assign (.Name y py) c.fenv)) (Q := fun _ s' => Q .next s') rfl hs hclos hk hnames
    (h W m s _ r fun items xv σ₁ W₁ m₁ s₁ h₁ r₁ l₁ X₁ => ?_)) (fun _ s' hq => wpAny_pure (wpAny_pure hq)) fun _ _ e => e)
  obtain ⟨ht, os, ho, ha, hsz, hP⟩ := h₁
  refine X₁ _ _ fun h₂ I fp wr P' Md St up Y => ?_
  refine coreN (RR := compPost (model S.prog S.w) c.A (fun _ _ => False) (some (assign (.Name y py) c.fenv)) (fun _ s' => Q .next s')) O hz hel hcell hk ht hL ho hsz (fun D C i it o a b zs => hA σ₁ it o (ha i it o a b) D C zs) r₁ up Y fun D C W' m' s' X g => ?_
  obtain ⟨ys, r2, g2, v2, off⟩ := X.fin hz
  obtain ⟨mC, hn, _⟩ := X.hC
  show wpAny _ c.A (assign (.Name y py) c.fenv (.ref D)) _ _ _
  refine wpAny_assign_Name (wpAny_storeName_local hy (by rw [O.hl]; exact r2.F.ns) (fun h₃ hn₃ hs₃ => ?_) (by rw [O.hke]; rfl))
  rw [O.hl] at hn₃ hs₃
  have r3 := r2.store (tk := s'.toks + 1) hel hn₃ hs₃ hyc v2
  refine ⟨mC, hn.sameBut hs₃ X.oC.1, fun h'' hs'' => ?_⟩
  have r4 := R.off (h' := h'') (tk := s'.toks + 1) (wr := [C]) r3 (fun b o hb e => hs''.extBut b o (fun z => hb (by rw [z]; exact .head _)) e) (fun h => X.oC.1 (List.mem_singleton.mp h).symm) (fun b hb => by rw [List.mem_singleton.mp hb]; exact X.oC.2) fun p hp h => off p hp (List.mem_singleton.mp h)
  exact q _ .next _ _ _ _ hP r4 ((l₁.trans g).trans g2).own rfl
end
end
end Mine

end

section
set_option maxRecDepth 100000
set_option autoImplicit false
set_option linter.unusedVariables false
namespace Mine
open PySem PySem.W PyProof.Rows PySem.Calls PyProof.Rows.LCg

def KasT.runB {α : Type} (n : Nat) (lt : Nat → Nat → Bool) : KasT α → Option α
  | .ret a => some a
  | .ask i j k => if i < n ∧ j < n then KasT.runB n lt (k (lt i j)) else none
theorem KasT.runB_wp {α : Type} {n : Nat} {lt : Nat → Nat → Bool} {cmp : Nat → Nat → (Bool → Shared → Prop) → Shared → Prop} {s : Shared} (hc : ∀ i j C, i < n → j < n → C (lt i j) s → cmp i j C s) {Q : α → Shared → Prop} {a : α} (hq : Q a s) :
    ∀ (t : KasT α), KasT.runB n lt t = some a → t.kasWp cmp Q s
  | .ret _, h => by cases h; exact hq
  | .ask i j k, h => by
    unfold KasT.runB at h
    split at h
    · rename_i hb; exact hc i j _ hb.1 hb.2 (KasT.runB_wp hc hq (k (lt i j)) h)
    · cases h

abbrev pairL (p : Int × Int) : V := .flst [.int p.1, .int p.2]
def pairNs (p : Int × Int) : List Int := [p.1, p.2]
def sortP (l : List (Int × Int)) : Option (List (Int × Int)) :=
  (KasT.runB l.length (fun i j => ltL (pairNs (l.getD i (0, 0))) (pairNs (l.getD j (0, 0)))) (kas_sort l.length)).bind fun p => if p.toList.all (fun i => decide (i < l.length)) = true then some (p.toList.map fun i => l.getD i (0, 0)) else none
section
variable {S : Sx} {c : Cx} {env : Env} {σ : St} {n : Nat} {W : Wd} {m : Str → Option Value} {s : Shared}
theorem VR.isFl {vs : List V} {x : Value} (h : VR W (.flst vs) x) : ∃ a xs k, x = .ref a ∧ (a, listOf xs.toArray k) ∈ W.news ∧ VRs W vs xs ∧ a ∉ W.al := by
  cases h with
  | flst h1 h2 h3 => exact ⟨_, _, _, rfl, h1, h3, h2⟩
theorem bin_flL (hfz : c.fz = false) {j : Nat} {vs ws : List V} {P : V → St → Prop} (hj : σ.ls[j]? = some ws) (hz : vs.length + ws.length ≤ 1000) (h : NewK σ (vs ++ ws) P) : BinS S c .Add (.flst vs) (.lst j) σ P := fun W x y hx hy m s Q r q => by
  obtain ⟨a, xs, c1, rfl, a1, a2, a3⟩ := hx.isFl
  obtain ⟨b, ys, c2, rfl, b1, b2, b3⟩ := r.lstAt hj hy
  have e1 := a2.length
  have e2 := b3.length
  exact add_lists r.F r.all (isL_of a1 r) (isL_of b2 r) (fun h' F' N' => lst_made (tk := s.toks) hfz r (a2.append b3) h q F' N' (lt_size r)) (by rw [e1, e2, sizeLine_eq]; omega)
theorem call_len_fl {vs : List V} {P : V → St → Prop} (hz : vs.length < 1000) (h : P (.int vs.length) σ) : CallS S c (.old (.builtin "len")) [.flst vs] σ P := fun W x xs hx hxs m s Q r q => by
  cases hx
  cases hxs with
  | cons h1 h2 =>
    cases h2
    obtain ⟨a, ys, c', rfl, a1, a2, a3⟩ := h1.isFl
    have e := a2.length
    exact kst_len r.N a1 e (by omega) (q _ _ σ W _ _ h (r.tok _) .refl .int)
theorem sub_fl {value slice : Expr} {vs : List V} {i : Int} {v : V} {P : V → St → Prop} (hs : ∀ a t, subscripted slice false (.ref a) (.int i t) = operate [.ref a, .int i t] (getItem (.ref a) (.int i t))) (h0 : 0 ≤ i) (h1 : i < 1000) (hv : vs[i.toNat]? = some v) (h : P v σ) : SubT S c value slice (.flst vs) (.int i) σ P := fun W x y hx hy m s Q r q => by
  cases hy
  obtain ⟨a, xs, c', rfl, a1, a2, a3⟩ := hx.isFl
  obtain ⟨u, hu, hu'⟩ := a2.get hv
  have hl : s.heap.IsList a xs.toArray := ⟨_, (r.N _ a1).1, rfl, _, rfl⟩
  exact tail_any hl.typeIs slot_list_getitem.lookup (getItem_listL hl h0 (by omega) hu (q _ _ σ W _ _ h r .refl hu')) (hs _ _)
theorem VRs.pairAt {ps : List (Int × Int)} {xs : List Value} (h : VRs W (ps.map pairL) xs) {i : Nat} {p : Int × Int} (hp : ps[i]? = some p) : ∃ a ys k, xs[i]? = some (.ref a) ∧ (a, listOf ys.toArray k) ∈ W.news ∧ IntsAre ys (pairNs p) := by
  obtain ⟨u, hu, hv⟩ := h.get (j := i) (v := pairL p) (by rw [List.getElem?_map, hp]; rfl)
  obtain ⟨a, ys, k, rfl, a1, a2, _⟩ := hv.isFl
  refine ⟨a, ys, k, hu, a1, ?_⟩
  cases a2 with
  | cons h1 h2 => cases h2 with
    | cons h3 h4 => cases h4; cases h1; cases h3; exact .cons _ _ (.cons _ _ .nil)

theorem cmp_flfl (O : Ok S c n) (hn : 10 ≤ n) {ps qs : List (Int × Int)} {P : V → St → Prop} (h : P (.bool (decide (ps = qs))) σ) : CmpS S c .Eq (.flst (ps.map pairL)) (.flst (qs.map pairL)) σ P := fun W x y hx hy m s Q r q => by
  obtain ⟨a, xs, c1, rfl, a1, a2, _⟩ := hx.isFl
  obtain ⟨b, ys, c2, rfl, b1, b2, _⟩ := hy.isFl
  have hu := O.hu
  have e1 := a2.length
  have e2 := b2.length
  rw [List.length_map] at e1 e2
  have la := isL_of a1 r
  have lb := isL_of b1 r
  by_cases hl : ps.length = qs.length
  · refine PySem.SeqAt.eq_listAt (e := fun j => decide (ps.getD j (0, 0) = qs.getD j (0, 0))) la lb (by simp; omega) (by omega) (fun j h1 h2 => ?_) ?_
    · simp only [List.size_toArray] at h1 h2
      have g1 : ps[j]? = some (ps.getD j (0, 0)) := by simp [show j < ps.length by omega]
      have g2 : qs[j]? = some (qs.getD j (0, 0)) := by simp [show j < qs.length by omega]
      obtain ⟨u, zs, k1, z1, z2, z3⟩ := a2.pairAt g1
      obtain ⟨v, ws, k2, w1, w2, w3⟩ := b2.pairAt g2
      have i1 : xs.toArray[j] = .ref u := by simpa using (List.getElem?_eq_some_iff.mp z1).2
      have i2 : ys.toArray[j] = .ref v := by simpa using (List.getElem?_eq_some_iff.mp w1).2
      rw [i1, i2]
      have dP : ∀ p q : Int × Int, decide (p = q) = (p.1 == q.1 && p.2 == q.2) := fun p q => by
        obtain ⟨p1, p2⟩ := p
        obtain ⟨q1, q2⟩ := q
        by_cases e1 : p1 = q1 <;> by_cases e2 : p2 = q2 <;> simp [e1, e2]
      rw [dP]
      by_cases huv : u = v
      · subst huv
        have := (r.N _ z2).1.symm.trans (r.N _ w2).1
        have e : zs = ws := by
          have h3 := congrArg Obj.data (Option.some.inj this)
          simp only at h3
          injection h3 with h4 h5
          exact congrArg Array.toList h4
        subst e
        have e3 : pairNs (ps.getD j (0, 0)) = pairNs (qs.getD j (0, 0)) := by
          revert z3 w3
          generalize pairNs (ps.getD j (0, 0)) = A
          generalize pairNs (qs.getD j (0, 0)) = B
          intro z3
          clear z2 w2 this
          induction z3 generalizing B with
          | nil => intro w3; cases w3; rfl
          | cons a t r ih => intro w3; cases w3 with | cons _ _ r' => rw [ih _ r']
        simp only [pairNs, List.cons.injEq, and_true] at e3
        rw [e3.1, e3.2, beq_self_eq_true, beq_self_eq_true]
        exact PySem.SeqAt.EqAt.same _
      · refine PySem.SeqAt.EqAt.of_refs huv ?_
        have lu := isL_of z2 r
        have lv := isL_of w2 r
        cases z3 with
        | cons p1 t1 z3 => cases z3 with
          | cons p2 t2 z3 =>
            cases z3
            cases w3 with
            | cons q1 t3 w3 => cases w3 with
              | cons q2 t4 w3 =>
                cases w3
                have key := PySem.SeqAt.RcAt.lists (A := c.A.in1) (e := fun k => if k = 0 then ((ps.getD j (0, 0)).1 == (qs.getD j (0, 0)).1) else ((ps.getD j (0, 0)).2 == (qs.getD j (0, 0)).2)) lu lv rfl (by show c.A.units + _ < _; omega) (fun k h1 h2 => by
                  match k, h1 with
                  | 0, _ => exact PySem.SeqAt.EqAt.int_int _ _ _ _
                  | 1, _ => exact PySem.SeqAt.EqAt.int_int _ _ _ _)
                have hb : ((List.range 2).all fun k => if k = 0 then ((ps.getD j (0, 0)).1 == (qs.getD j (0, 0)).1) else ((ps.getD j (0, 0)).2 == (qs.getD j (0, 0)).2)) = ((ps.getD j (0, 0)).1 == (qs.getD j (0, 0)).1 && (ps.getD j (0, 0)).2 == (qs.getD j (0, 0)).2) := by simp [List.range, List.range.loop]
                rw [← hb]; exact key
    · have : (List.range xs.toArray.size).all (fun j => decide (ps.getD j (0, 0) = qs.getD j (0, 0))) = decide (ps = qs) := by
        rw [List.size_toArray, e1]
        by_cases he : ps = qs
        · subst he; simp
        · rw [decide_eq_false he]
          apply Bool.eq_false_iff.mpr
          intro hall
          rw [List.all_eq_true] at hall
          refine he (List.ext_getElem hl fun i h1 h2 => ?_)
          have := of_decide_eq_true (hall i (List.mem_range.mpr h1))
          simpa [h1, h2] using this
      rw [this]
      exact q _ _ σ W m s h r .refl .bool
  · refine PySem.SeqAt.eq_list_lengthsAt la lb (by simp; omega) (by omega) ?_
    have : decide (ps = qs) = false := decide_eq_false fun e => hl (by rw [e])
    rw [this] at h
    exact q _ _ σ W m s h r .refl .bool

theorem call_sortedP (O : Ok S c n) (hn : 10 ≤ n) (hfz : c.fz = false) {ps out : List (Int × Int)} {P : V → St → Prop} (h2 : 2 ≤ ps.length) (h64 : ps.length < 64) (ho : sortP ps = some out) (h : P (.flst (out.map pairL)) σ) : CallS S c (.old (.builtin "sorted")) [.flst (ps.map pairL)] σ P := fun W x xs hx hxs m s Q r q => by
  cases hx
  cases hxs with
  | cons h1 h3 =>
    cases h3
    obtain ⟨a, ys, c1, rfl, a1, a2, _⟩ := h1.isFl
    have hu := O.hu
    have e1 := a2.length
    rw [List.length_map] at e1
    obtain ⟨perm, hp, hin, rfl⟩ : ∃ perm, KasT.runB ps.length (fun i j => ltL (pairNs (ps.getD i (0, 0))) (pairNs (ps.getD j (0, 0)))) (kas_sort ps.length) = some perm ∧ (∀ i ∈ perm.toList, i < ps.length) ∧ perm.toList.map (fun i => ps.getD i (0, 0)) = out := by
      unfold sortP at ho
      obtain ⟨perm, h1, h2⟩ := Option.bind_eq_some_iff.mp ho
      split at h2
      · rename_i hall
        rw [List.all_eq_true] at hall
        exact ⟨perm, h1, fun i hi => of_decide_eq_true (hall i hi), Option.some.inj h2⟩
      · cases h2
    have inb : ∀ i, i < ps.length → ∃ u zs k, ys.getD i .none = .ref u ∧ (u, listOf zs.toArray k) ∈ W.news ∧ IntsAre zs (pairNs (ps.getD i (0, 0))) := fun i hi => by
      obtain ⟨u, zs, k, z1, z2, z3⟩ := a2.pairAt (i := i) (p := ps.getD i (0, 0)) (by simp [hi])
      exact ⟨u, zs, k, by rw [List.getD_eq_getElem?_getD, z1]; rfl, z2, z3⟩
    refine kas_sorted (T := .type "list") r.F r.all (isL_of a1 r) (by omega) (by omega) (fun hh F' N' v hv => ?_) rfl fun D e' h' F' N' l1 => ?_
    · obtain ⟨i, hi, rfl⟩ := List.getElem_of_mem hv
      obtain ⟨u, zs, k, z1, z2, z3⟩ := inb i (by omega)
      have : ys[i] = .ref u := by rw [← z1]; simp [hi]
      rw [this]
      exact (Looks.ld (N' _ (List.mem_append_right _ z2)).1).andThen .now
    · rw [e1]
      refine KasT.runB_wp (fun i j C hi hj hC => ?_) ?_ _ hp
      · obtain ⟨u, zs, k, z1, z2, z3⟩ := inb i hi
        obtain ⟨v, ws, k', w1, w2, w3⟩ := inb j hj
        unfold kas_ask
        rw [z1, w1]
        exact oneLt_lists (by rw [units_in1, units_in1]; omega) ⟨_, (N' _ (.tail _ (List.mem_append_right _ z2))).1, rfl, _, rfl⟩ ⟨_, (N' _ (.tail _ (List.mem_append_right _ w2))).1, rfl, _, rfl⟩ z3 w3 rfl hC
      · refine KasFin.intro F' N' (UpdF.head fun p hp => Nat.ne_of_lt (l1 p hp)) fun h'' c2 F'' N'' => ?_
        have hi : ∀ b ∈ c.frz ++ W.news, ∀ p ∈ [(D, listOf (perm.toList.map fun i => ys.getD i Value.none).toArray c2)], b.1 < p.1 := fun b hb p hp => by rw [List.mem_singleton.mp hp]; exact l1 b hb
        have r2 := r.next (tk := s.toks) (new := [(D, listOf (perm.toList.map fun i => ys.getD i Value.none).toArray c2)]) F'' N'' hi
        have le : Le [] W ⟨[(D, listOf (perm.toList.map fun i => ys.getD i Value.none).toArray c2)] ++ W.news, W.al⟩ := ⟨fun p hp _ => .tail _ hp, fun _ _ h => h, fun _ h => .inl h, fun p hp => ⟨p, .tail _ hp, rfl⟩⟩
        have vv : ∀ l : List Nat, (∀ i ∈ l, i < ps.length) → VRs W ((l.map fun i => ps.getD i (0, 0)).map pairL) (l.map fun i => ys.getD i Value.none) := fun l => by
          induction l with
          | nil => intro _; exact .nil
          | cons i l ih =>
            intro hl
            have hi := hl i (.head _)
            obtain ⟨u, hu, hv⟩ := a2.get (j := i) (v := pairL (ps.getD i (0, 0))) (by simp [hi])
            have e : ys.getD i Value.none = u := by rw [List.getD_eq_getElem?_getD, hu]; rfl
            rw [List.map_cons, List.map_cons, List.map_cons, e]
            exact .cons hv (ih fun j hj => hl j (.tail _ hj))
        refine q _ _ _ _ _ _ h r2 ⟨le, fun h => (by rw [hfz] at h; cases h)⟩ (.flst (.head _) (fun h => ?_) ((vv _ hin).mono le))
        obtain ⟨p, hp, e⟩ := r.alIn _ h
        exact Nat.lt_irrefl _ (e ▸ l1 p (List.mem_append_right _ hp))
end
end Mine

end

section
set_option maxRecDepth 100000
set_option autoImplicit false
set_option linter.unusedVariables false
set_option Elab.async false
set_option maxHeartbeats 4000000
open PySem PySem.W PyProof.Rows PySem.Calls
namespace Mine
open PyProof.Rows.LCg
section
variable {S : Sx} {c : Cx} {env : Env} {σ : St} {n : Nat} {W : Wd} {m : Str → Option Value} {s : Shared}
variable (hK : S.K = hd.heap_39 S.w.params) (hT : (49, (⟨40, 32, 40, 80⟩ : Pos)) ∈ S.tabs) (hD : ∀ t ∈ S.tabs, t.1 = 49 → t.2 = (⟨40, 32, 40, 80⟩ : Pos))
include hK hT hD
theorem call_op422_ft (O : Ok S c n) (hn : 60 ≤ n) (hfz : c.fz = false) (hfr : c.frz = []) {q cc na u v : Int} {P : V → St → Prop} (hq : 0 < q) (hq2 : q < 1000) 
    (h : P (opV 161 q cc na (Int.fmod u q) (Int.fmod v q)) σ) : CallS S c (.old (.ref 161)) [.flst [.int u, .int v], .tup [.int cc, .int na], .int q] σ P := fun W f xs hf hxs m s Q r k => by
  obtain ⟨dp, un, gd, eA, hdp, hun⟩ := O.lit
  cases hf
  cases hxs with
  | cons b1 z => cases z with
    | cons b2 z => cases z with
      | cons b3 z =>
        cases z; cases b3
        have X := hK ▸ O.X
        obtain ⟨x1, ys1, n1, rfl, d2, d3, _⟩ := b1.isFl
        obtain ⟨x2, ys2, rfl, e2, e3, _⟩ := b2.isTup r
        cases d3 with
        | cons p1 z => cases z with
          | cons p2 z =>
            cases z; cases p1; cases p2
            cases e3 with
            | cons p3 z => cases z with
              | cons p4 z =>
                cases z; cases p3; cases p4
                obtain ⟨ps, t1, t2⟩ := r.tabs hfz _ hT
                have ne : ∀ p ∈ W.news, tabB p.2 = false → p.1 ≠ 49 := fun p h hb e => by
                  have h1 := (r.N p h).1
                  rw [e, (r.N _ t1).1] at h1
                  rw [← Option.some.inj h1] at hb
                  exact Bool.noConfusion (show true = false from hb)
                rw [eA]
                exact op_new_422_lt (tcl := 0) O.B r.F X (fun p hp => by
                  rcases List.mem_cons.mp hp with rfl | hp
                  · exact r.N _ t1
                  · exact r.N p (offT_sub p hp)) O.T O.hf O.hke (by omega) (by omega) O.M O.old (r.gens hfz) offT_ne t2 hq hq2 (offT_mem d2 (ne _ d2 rfl)) (offT_mem e2 (ne _ e2 rfl)) (opR_of r hfz hfr hT hD t1 fun x W' m' s' r' g' v' => k _ x σ W' m' s' h r' g' v')
theorem call_op451_ft (O : Ok S c n) (hn : 60 ≤ n) (hfz : c.fz = false) (hfr : c.frz = []) {q cc na u v : Int} {P : V → St → Prop} (hq : 0 < q) (hq2 : q < 1000) 
    (h : P (opV 190 q cc na (Int.fmod u q) (Int.fmod v q)) σ) : CallS S c (.old (.ref 190)) [.flst [.int u, .int v], .tup [.int cc, .int na], .int q] σ P := fun W f xs hf hxs m s Q r k => by
  obtain ⟨dp, un, gd, eA, hdp, hun⟩ := O.lit
  cases hf
  cases hxs with
  | cons b1 z => cases z with
    | cons b2 z => cases z with
      | cons b3 z =>
        cases z; cases b3
        have X := hK ▸ O.X
        obtain ⟨x1, ys1, n1, rfl, d2, d3, _⟩ := b1.isFl
        obtain ⟨x2, ys2, rfl, e2, e3, _⟩ := b2.isTup r
        cases d3 with
        | cons p1 z => cases z with
          | cons p2 z =>
            cases z; cases p1; cases p2
            cases e3 with
            | cons p3 z => cases z with
              | cons p4 z =>
                cases z; cases p3; cases p4
                obtain ⟨ps, t1, t2⟩ := r.tabs hfz _ hT
                have ne : ∀ p ∈ W.news, tabB p.2 = false → p.1 ≠ 49 := fun p h hb e => by
                  have h1 := (r.N p h).1
                  rw [e, (r.N _ t1).1] at h1
                  rw [← Option.some.inj h1] at hb
                  exact Bool.noConfusion (show true = false from hb)
                rw [eA]
                exact op_new_451_lt (tcl := 0) O.B r.F X (fun p hp => by
                  rcases List.mem_cons.mp hp with rfl | hp
                  · exact r.N _ t1
                  · exact r.N p (offT_sub p hp)) O.T O.hf O.hke (by omega) (by omega) O.M O.old (r.gens hfz) offT_ne t2 hq hq2 (offT_mem d2 (ne _ d2 rfl)) (offT_mem e2 (ne _ e2 rfl)) (opR_of r hfz hfr hT hD t1 fun x W' m' s' r' g' v' => k _ x σ W' m' s' h r' g' v')
end
end Mine

end

section
set_option maxRecDepth 100000
set_option autoImplicit false
set_option linter.unusedVariables false
namespace Mine
open PySem PySem.W PyProof.Rows PySem.Calls PyProof.Rows.LCg
section
variable {S : Sx} {c : Cx} {env : Env} {σ : St} {n : Nat}

theorem ev_cut {e : Expr} {v0 : V} {σ0 : St} {P : V → St → Prop} (h : EvS S c env e σ fun v σ' => v = v0 ∧ σ' = σ0) (k : P v0 σ0) : EvS S c env e σ P := fun W m s Q r q =>
  h W m s Q r fun v x σ' W' m' s' p r' g e => by
    obtain ⟨rfl, rfl⟩ := p
    exact q _ _ _ _ _ _ k r' g e
theorem comp_l {α : Type} {l : List α} {g : α → It} {A : It → List V → Prop} {K : List V → Prop} (f : α → List V) (hA : ∀ x ∈ l, A (g x) (f x)) (hz : (l.flatMap f).length ≤ 1000) (hK : K (l.flatMap f)) : CompN (l.map g) A K := by
  refine ⟨l.map f, by simp, fun i it o h1 h2 => ?_, hz, hK⟩
  rw [List.getElem?_map] at h1 h2
  obtain ⟨x, hx, rfl⟩ := Option.map_eq_some_iff.mp h1
  rw [hx] at h2
  cases h2
  exact hA x (List.mem_of_getElem? hx)
theorem fzk_v {σ' : St} {P : V → Prop} {v : V} {g : List (List V)} (hv : noLst v = true) (hg : σ'.ls = σ.ls ++ g) (h : P v) : fzK σ P v σ' := ⟨⟨g, hg⟩, v, .keep hv, h⟩
theorem fzk_l {σ' : St} {P : V → Prop} {k j : Nat} {g : List (List V)} {ws : List V} (hk : k = σ.ls.length + j) (hg : σ'.ls = σ.ls ++ g) (hs : σ'.ls[k]? = some ws) (hv : noLsts ws = true) (h : P (.flst ws)) : fzK σ P (.lst k) σ' :=
  ⟨⟨g, hg⟩, _, .lst (by omega) hs (Fzs.keep hv), h⟩
def A0 (S : Sx) (c : Cx) (n : Nat) (scope : Scope) (cl : List (Str × Addr)) (target elt : Expr) (σ : St) (it : It) (o : List V) : Prop := ∃ out, o = [out] ∧ EltN S c n scope cl elt (cvOf target it) σ fun v => v = out
def A1 (S : Sx) (c : Cx) (n : Nat) (scope : Scope) (cl : List (Str × Addr)) (cond elt : Expr) (σ : St) (cv : List (Str × V)) (o : List V) : Prop :=
  ∃ b, TstN S c n scope cl cond cv σ b ∧ if b = true then ∃ out, o = [out] ∧ EltN S c n scope cl elt cv σ (fun v => v = out) else o = []
def A2 (S : Sx) (c : Cx) (n : Nat) (scope : Scope) (cl : List (Str × Addr)) (t1 i2 cond elt : Expr) (x2 : Str) (σ : St) (it : It) (o : List V) : Prop :=
  ∃ (k : Nat) (b : Int) (f : Nat → List V), Builtin.Range.small 0 b 1 = true ∧ Builtin.Range.rangeSize 0 b 1 = ((k : Nat) : Int) ∧ (cvOf t1 it).lookup x2 = none ∧ o = (List.range k).flatMap f ∧ EltN S c n scope cl i2 (cvOf t1 it) σ (fun v => v = .rng 0 b 1) ∧
    ∀ i < k, A1 S c n scope cl cond elt σ ([(x2, .int (0 + (i : Int) * 1))] ++ cvOf t1 it) (f i)
section
variable {scope : Scope} {cl : List (Str × Addr)} {elt target iter cond : Expr} {pos : Pos}
theorem ev_c0 (O : Ok S c n) (hz : c.fz = false) (hel : c.el = false) {P : V → St → Prop} (hclos : closureFor scope c.fenv = pure cl) (hcell : ∀ y ∈ scope.names, y.2 ≠ .cell) (hk : scope.kind = .function)
    (hnames : ∀ y ∈ scope.names, y.2 = .local → scope.names.lookup y.1 = some .local) (hs : ∀ x, foldedSetIterable iter c.fenv x = pure x)
    (h : IteS S c true c.fenv iter target σ fun items σ₁ => TgOk scope target items ∧ CompN items (A0 S c n scope cl target elt σ₁) fun outs => P (.flst outs) σ₁) : EvS S c c.fenv (.ListComp elt [⟨target, iter, [], 0⟩] scope pos) σ P :=
  ev_cN (T := fun acc env => Wk0 S.prog S.w c.A elt acc env) O hz hel hclos hcell hk hnames hs (fun _ _ _ => loop0) (fun σ it o hA D C zs => by
    obtain ⟨out, rfl, h⟩ := hA
    exact act0 (cvk := []) (O.cN c.C zs c.el c.mm) hz hel (fun _ _ e => nomatch e) h) h
theorem st_c1 (O : Ok S c n) (hz : c.fz = false) (hel : c.el = false) {spos : Pos} {y : Str} {py : Pos} {E : Env} {P : Fl → St → Prop} (hsw : swapsWith (.ListComp elt [⟨target, iter, [cond], 0⟩] scope pos) (some (.Name y py)) spos.line c.fenv = pure true) (hclos : closureFor scope c.fenv = pure cl) (hcell : ∀ y ∈ scope.names, y.2 ≠ .cell) (hk : scope.kind = .function)
    (hnames : ∀ y ∈ scope.names, y.2 = .local → scope.names.lookup y.1 = some .local) (hs : ∀ x, foldedSetIterable iter c.fenv x = pure x) (hE : c.fenv = E) (hy : E.kindOf y = some .local) (hyc : E.cells.lookup y = none)
    (h : IteS S c true c.fenv iter target σ fun items σ₁ => TgOk scope target items ∧ CompN items (fun it o => A1 S c n scope cl cond elt σ₁ (cvOf target it) o) fun outs => P .next (setL y (.flst outs) σ₁)) : StS S c (.Assign [.Name y py] (.ListComp elt [⟨target, iter, [cond], 0⟩] scope pos) spos) σ P :=
  st_cN (A := fun σ₁ it o => A1 S c n scope cl cond elt σ₁ (cvOf target it) o) (T := fun acc env => Wk1 S.prog S.w c.A cond elt acc env) O hz hel hsw hclos hcell hk hnames hs hE hy hyc (fun _ _ _ => loop1) (fun σ it o hA D C zs => by
    obtain ⟨b, ht, h⟩ := hA
    exact act1 (cvk := []) (O.cN c.C zs c.el c.mm) hz hel (fun _ _ e => nomatch e) ht h) h
theorem st_c2 (O : Ok S c n) (hz : c.fz = false) (hel : c.el = false) {t1 i1 i2 : Expr} {x2 : Str} {px : Pos} {spos : Pos} {y : Str} {py : Pos} {E : Env} {P : Fl → St → Prop} (hsw : swapsWith (.ListComp elt [⟨t1, i1, [], 0⟩, ⟨.Name x2 px, i2, [cond], 0⟩] scope pos) (some (.Name y py)) spos.line c.fenv = pure true) (hclos : closureFor scope c.fenv = pure cl) (hcell : ∀ y ∈ scope.names, y.2 ≠ .cell) (hk : scope.kind = .function)
    (hnames : ∀ y ∈ scope.names, y.2 = .local → scope.names.lookup y.1 = some .local) (hs : ∀ x, foldedSetIterable i1 c.fenv x = pure x) (hs2 : ∀ env x, foldedSetIterable i2 env x = pure x) (hx2 : scope.names.lookup x2 = some .local) (hE : c.fenv = E) (hy : E.kindOf y = some .local) (hyc : E.cells.lookup y = none)
    (h : IteS S c true c.fenv i1 t1 σ fun items σ₁ => TgOk scope t1 items ∧ CompN items (A2 S c n scope cl t1 i2 cond elt x2 σ₁) fun outs => P .next (setL y (.flst outs) σ₁)) : StS S c (.Assign [.Name y py] (.ListComp elt [⟨t1, i1, [], 0⟩, ⟨.Name x2 px, i2, [cond], 0⟩] scope pos) spos) σ P :=
  st_cN (A := A2 S c n scope cl t1 i2 cond elt x2) (T := fun acc env => Wk2 S.prog S.w c.A (.ListComp elt [⟨t1, i1, [], 0⟩, ⟨.Name x2 px, i2, [cond], 0⟩] scope pos) i2 acc env) O hz hel hsw hclos hcell hk hnames hs hE hy hyc (fun _ _ _ => loopOut (hs2 _)) (fun σ it o hA D C zs => by
    obtain ⟨k, b, f, e1, e2, e3, eo, hi, ha⟩ := hA
    have e : o = ((List.range k).map f).flatten := by rw [eo]; rfl
    rw [e]
    refine act2 (cvk := []) (items := rngI 0 1 k) (os := (List.range k).map f) (rv := .rng 0 b 1) (O.cN c.C zs c.el c.mm) hz hel (fun _ _ e => nomatch e) (fun it => loopIn) (asgN_name hk hx2 (fun e h => tg_rng _ _ _ e h) e3) (by simp [rngI]) hi (fun c' σ' W m s xv O' r hv => py_rng O' r hv e1 e2) fun i it' o' h1 h2 zs' => ?_
    rw [List.getElem?_map] at h2
    unfold rngI at h1
    rw [List.getElem?_map] at h1
    obtain ⟨j, hj, rfl⟩ := Option.map_eq_some_iff.mp h1
    rw [hj] at h2
    cases h2
    have hjk : j < k := List.mem_range.mp (List.mem_of_getElem? hj)
    obtain ⟨bb, ht, hb⟩ := ha j hjk
    refine act1 ((O.cN c.C zs c.el c.mm).cN c.C zs' c.el c.mm) hz hel (fun x v e => ?_) ht hb
    show List.lookup x ([(x2, V.int (0 + (j : Int) * 1))] ++ cvOf t1 it) = some v
    rw [List.cons_append, List.nil_append, List.lookup_cons]
    cases q : x == x2 with
    | true => rw [beq_iff_eq.mp q, e3] at e; cases e
    | false => exact e) h
end
theorem noLsts_pairL : ∀ l : List (Int × Int), noLsts (l.map pairL) = true
  | [] => rfl
  | p :: l => by rw [List.map_cons, noLsts, noLsts_pairL l]; rfl
end
end Mine

end

section
set_option maxRecDepth 100000
set_option autoImplicit false
set_option linter.unusedVariables false
set_option Elab.async false
set_option maxHeartbeats 4000000
open PySem PySem.W PyProof.Rows PySem.Calls
namespace Mine
local macro_rules | `(tactic| wtm_at "syG") => `(tactic| with_reducible exact g__law_common _)
local macro_rules | `(tactic| wtm_at "syG") => `(tactic| with_reducible exact g__law_turn _)
local macro_rules | `(tactic| wtm_at "syG") => `(tactic| with_reducible exact g__law_point _)
local macro_rules | `(tactic| wtm_at "syG") => `(tactic| with_reducible exact g__law_plain _)
local macro_rules | `(tactic| wtm_at "syG") => `(tactic| with_reducible exact g__law_made _)
local macro_rules | `(tactic| wtm_at "syG") => `(tactic| with_reducible exact g__law_at _)
local macro_rules | `(tactic| wtm_at "syG") => `(tactic| with_reducible exact g__law_primes _)
local macro_rules | `(tactic| wtm_at "syG") => `(tactic| with_reducible exact g_FQ2 _)
local macro_rules | `(tactic| wtm_at "syG") => `(tactic| with_reducible exact g_FQP_optimized_field_elements _)
local macro_rules | `(tactic| wtm_at "syG") => `(tactic| with_reducible exact g_FQP_field_elements _)
local macro_rules | `(tactic| wtm_at "syG") => `(tactic| with_reducible exact g_FQ _)
local macro_rules | `(tactic| wtm_at "syG") => `(tactic| with_reducible exact g_prime_field_inv _)
local macro_rules | `(tactic| wtm_at "syG") => `(tactic| with_reducible exact g_poly_rounded_div _)
local macro_rules | `(tactic| wtm_at "syG") => `(tactic| with_reducible exact g_deg _)
local macro_rules | `(tactic| wtm_at "syB") => `(tactic| with_reducible exact b_sorted _)
local macro_rules | `(tactic| wtm_at "syB") => `(tactic| with_reducible exact b_max _)
local macro_rules | `(tactic| wtm_at "syB") => `(tactic| with_reducible exact b_pow _)
local macro_rules | `(tactic| wtm_at "syB") => `(tactic| with_reducible exact b_zip _)
local macro_rules | `(tactic| wtm_at "syB") => `(tactic| with_reducible exact b_enumerate _)
local macro_rules | `(tactic| wtm_at "syB") => `(tactic| with_reducible exact b_tuple _)
local macro_rules | `(tactic| wtm_at "syB") => `(tactic| with_reducible exact b_list _)
local macro_rules | `(tactic| wtm_at "syB") => `(tactic| with_reducible exact b_isinstance _)
local macro_rules | `(tactic| wtm_at "syB") => `(tactic| with_reducible exact b_int _)
local macro_rules | `(tactic| wtm_at "syB") => `(tactic| with_reducible exact b_range _)
local macro_rules | `(tactic| wtm_at "syB") => `(tactic| with_reducible exact b_len _)
local macro_rules | `(tactic| wtm_at "syBB") => `(tactic| with_reducible exact bb_sorted)
local macro_rules | `(tactic| wtm_at "syBB") => `(tactic| with_reducible exact bb_max)
local macro_rules | `(tactic| wtm_at "syBB") => `(tactic| with_reducible exact bb_pow)
local macro_rules | `(tactic| wtm_at "syBB") => `(tactic| with_reducible exact bb_zip)
local macro_rules | `(tactic| wtm_at "syBB") => `(tactic| with_reducible exact bb_enumerate)
local macro_rules | `(tactic| wtm_at "syBB") => `(tactic| with_reducible exact bb_tuple)
local macro_rules | `(tactic| wtm_at "syBB") => `(tactic| with_reducible exact bb_list)
local macro_rules | `(tactic| wtm_at "syBB") => `(tactic| with_reducible exact bb_isinstance)
local macro_rules | `(tactic| wtm_at "syBB") => `(tactic| with_reducible exact bb_int)
local macro_rules | `(tactic| wtm_at "syBB") => `(tactic| with_reducible exact bb_range)
local macro_rules | `(tactic| wtm_at "syBB") => `(tactic| with_reducible exact bb_len)
local macro_rules | `(tactic| wtm_at "syK") => `(tactic| with_reducible exact (mt_451_optimized_poly_rounded_div _).hk)
local macro_rules | `(tactic| wtm_at "syK") => `(tactic| with_reducible exact (mt_451_inv _).hk)
local macro_rules | `(tactic| wtm_at "syK") => `(tactic| with_reducible exact (mt_451_made _).hk)
local macro_rules | `(tactic| wtm_at "syK") => `(tactic| with_reducible exact (mt_422_optimized_poly_rounded_div _).hk)
local macro_rules | `(tactic| wtm_at "syK") => `(tactic| with_reducible exact (mt_422_inv _).hk)
local macro_rules | `(tactic| wtm_at "syK") => `(tactic| with_reducible exact (mt_422_made _).hk)
local macro_rules | `(tactic| wtm_at "syK") => `(tactic| with_reducible exact (mt_297_inv _).hk)
local macro_rules | `(tactic| wtm_at "syK") => `(tactic| with_reducible exact (mt_297_FQP_corresponding_FQ_class _).hk)
local macro_rules | `(tactic| wtm_at "syK") => `(tactic| with_reducible exact (mt_297_made _).hk)
local macro_rules | `(tactic| wtm_at "syK") => `(tactic| with_reducible exact (mt_183_made _).hk)
local macro_rules | `(tactic| wtm_at "syK") => `(tactic| with_reducible exact kp__law_common _)
local macro_rules | `(tactic| wtm_at "syK") => `(tactic| with_reducible exact kp__law_turn _)
local macro_rules | `(tactic| wtm_at "syK") => `(tactic| with_reducible exact kp__law_point _)
local macro_rules | `(tactic| wtm_at "syK") => `(tactic| with_reducible exact kp__law_plain _)
local macro_rules | `(tactic| wtm_at "syK") => `(tactic| with_reducible exact kp__law_made _)
local macro_rules | `(tactic| wtm_at "syK") => `(tactic| with_reducible exact kp__law_at _)
local macro_rules | `(tactic| wtm_at "syK") => `(tactic| with_reducible exact kp__law_primes _)
local macro_rules | `(tactic| wtm_at "syK") => `(tactic| with_reducible exact kp_FQ2 _)
local macro_rules | `(tactic| wtm_at "syK") => `(tactic| with_reducible exact kp_FQP_optimized_field_elements _)
local macro_rules | `(tactic| wtm_at "syK") => `(tactic| with_reducible exact kp_FQP_field_elements _)
local macro_rules | `(tactic| wtm_at "syK") => `(tactic| with_reducible exact kp_FQ _)
local macro_rules | `(tactic| wtm_at "syK") => `(tactic| with_reducible exact kp_prime_field_inv _)
local macro_rules | `(tactic| wtm_at "syK") => `(tactic| with_reducible exact kp_poly_rounded_div _)
local macro_rules | `(tactic| wtm_at "syK") => `(tactic| with_reducible exact kp_deg _)
local macro_rules | `(tactic| wtm_at "syA") => `(tactic| with_reducible exact at_451_mc_tuples _)
local macro_rules | `(tactic| wtm_at "syA") => `(tactic| with_reducible exact at_451_degree _)
local macro_rules | `(tactic| wtm_at "syA") => `(tactic| with_reducible exact at_451_modulus_coeffs _)
local macro_rules | `(tactic| wtm_at "syA") => `(tactic| with_reducible exact at_451_coeffs _)
local macro_rules | `(tactic| wtm_at "syA") => `(tactic| with_reducible exact at_451_field_modulus _)
local macro_rules | `(tactic| wtm_at "syA") => `(tactic| with_reducible exact at_422_mc_tuples _)
local macro_rules | `(tactic| wtm_at "syA") => `(tactic| with_reducible exact at_422_degree _)
local macro_rules | `(tactic| wtm_at "syA") => `(tactic| with_reducible exact at_422_modulus_coeffs _)
local macro_rules | `(tactic| wtm_at "syA") => `(tactic| with_reducible exact at_422_coeffs _)
local macro_rules | `(tactic| wtm_at "syA") => `(tactic| with_reducible exact at_422_field_modulus _)
local macro_rules | `(tactic| wtm_at "syA") => `(tactic| with_reducible exact at_297_degree _)
local macro_rules | `(tactic| wtm_at "syA") => `(tactic| with_reducible exact at_297_modulus_coeffs _)
local macro_rules | `(tactic| wtm_at "syA") => `(tactic| with_reducible exact at_297_coeffs _)
local macro_rules | `(tactic| wtm_at "syA") => `(tactic| with_reducible exact at_297_field_modulus _)
local macro_rules | `(tactic| wtm_at "syA") => `(tactic| with_reducible exact at_183_n _)
local macro_rules | `(tactic| wtm_at "syA") => `(tactic| with_reducible exact at_183_field_modulus _)
local macro_rules | `(tactic| wtm_at "syM") => `(tactic| with_reducible exact mt_451_optimized_poly_rounded_div _)
local macro_rules | `(tactic| wtm_at "syM") => `(tactic| with_reducible exact mt_451_inv _)
local macro_rules | `(tactic| wtm_at "syM") => `(tactic| with_reducible exact mt_451_made _)
local macro_rules | `(tactic| wtm_at "syM") => `(tactic| with_reducible exact mt_422_optimized_poly_rounded_div _)
local macro_rules | `(tactic| wtm_at "syM") => `(tactic| with_reducible exact mt_422_inv _)
local macro_rules | `(tactic| wtm_at "syM") => `(tactic| with_reducible exact mt_422_made _)
local macro_rules | `(tactic| wtm_at "syM") => `(tactic| with_reducible exact mt_297_inv _)
local macro_rules | `(tactic| wtm_at "syM") => `(tactic| with_reducible exact mt_297_FQP_corresponding_FQ_class _)
local macro_rules | `(tactic| wtm_at "syM") => `(tactic| with_reducible exact mt_297_made _)
local macro_rules | `(tactic| wtm_at "syM") => `(tactic| with_reducible exact mt_183_made _)
local macro_rules | `(tactic| wtm_at "syO") => `(tactic| with_reducible exact oc_451 _)
local macro_rules | `(tactic| wtm_at "syO") => `(tactic| with_reducible exact oc_422 _)
local macro_rules | `(tactic| wtm_at "syO") => `(tactic| with_reducible exact oc_297 _)
local macro_rules | `(tactic| wtm_at "syO") => `(tactic| with_reducible exact oc_183 _)
local macro_rules | `(tactic| wtm_at "syI") => `(tactic| with_reducible exact ko_451_422 _)
local macro_rules | `(tactic| wtm_at "syI") => `(tactic| with_reducible exact ko_451_int _)
local macro_rules | `(tactic| wtm_at "syI") => `(tactic| with_reducible exact ko_422_422 _)
local macro_rules | `(tactic| wtm_at "syI") => `(tactic| with_reducible exact ko_422_int _)
local macro_rules | `(tactic| wtm_at "syI") => `(tactic| with_reducible exact ko_297_297 _)
local macro_rules | `(tactic| wtm_at "syI") => `(tactic| with_reducible exact ko_183_422 _)
local macro_rules | `(tactic| wtm_at "syI") => `(tactic| with_reducible exact ko_183_297 _)
local macro_rules | `(tactic| wtm_at "syI") => `(tactic| with_reducible exact ko_183_183 _)
local macro_rules | `(tactic| wtm_at "syI") => `(tactic| with_reducible exact ko_183_int _)
local macro_rules | `(tactic| wtm_at "syI") => `(tactic| with_reducible exact ko_int_183 _)
local macro_rules | `(tactic| wtm_at "syI") => `(tactic| with_reducible exact ko_int_int _)
local macro_rules | `(tactic| wtm_at "syIA") => `(tactic| exact ka_297 _)
local macro_rules | `(tactic| wtm_at "syIA") => `(tactic| exact ka_183 _)
local macro_rules | `(tactic| wtm_at "syIA") => `(tactic| exact ka_int _)
local macro_rules | `(tactic| wtm_at "syDB") => `(tactic| decide)
local macro_rules | `(tactic| wtm_at "syDB") => `(tactic| rfl)
local macro_rules | `(tactic| wtm_at "syCName") => `(tactic| ((with_reducible refine' cevB ?hK ?O ?hE ?hks ?hk ?hd ?e ?hv ?hn ?_); (case hK => assumption); (case O => assumption); (case hE => assumption); (case hks => rfl); (case hk => rfl); (case hd => decide); (case e => wtm_at "syB"); (case hv => wtm_at "syBB"); (case hn => decide)))
local macro_rules | `(tactic| wtm_at "syCName") => `(tactic| ((with_reducible refine' cevG ?hK ?O ?hE ?hks ?hk ?hd ?e ?_); (case hK => assumption); (case O => assumption); (case hE => assumption); (case hks => rfl); (case hk => rfl); (case hd => decide); (case e => wtm_at "syG")))
local macro_rules | `(tactic| wtm_at "syCName") => `(tactic| ((with_reducible refine' cev_cel ?hE ?hks ?hk ?hc ?hc2 ?hv ?hd ?_); (case hE => assumption); (case hks => rfl); (case hk => rfl); (case hc => rfl); (case hc2 => rfl); (case hv => rfl); (case hd => decide)))
local macro_rules | `(tactic| wtm_at "syCName") => `(tactic| ((with_reducible refine' cev_loc ?hE ?hks ?hk ?hv ?hd ?_); (case hE => assumption); (case hks => rfl); (case hk => rfl); (case hv => rfl); (case hd => decide)))
local macro_rules | `(tactic| wtm_at "syAtt") => `(tactic| ((with_reducible refine' attX ?hK ?O ?X ?hl ?hv ?_); (case hK => assumption); (case O => assumption); (case X => wtm_at "syA"); (case hl => rfl); (case hv => rfl)))
local macro_rules | `(tactic| wtm_at "syMth") => `(tactic| ((with_reducible refine' mth_list ?hv ?slot ?hty ?_); (case hv => wtm_at "syHK"); (case slot => first | exact PySem.F.slot_list_append | exact PySem.F.slot_list_pop); (case hty => first | exact PySem.F.type_list_append | exact PySem.F.type_list_pop)))
local macro_rules | `(tactic| wtm_at "syMth") => `(tactic| ((with_reducible refine' mthX ?hK ?O ?X ?hl ?_); (case hK => assumption); (case O => assumption); (case X => wtm_at "syM"); (case hl => rfl)))
local macro_rules | `(tactic| wtm_at "syCmp") => `(tactic| ((with_reducible refine' cmp_fq_ne ?hK ?O ?hn ?a0 ?a1 ?b0 ?b1 ?_); (case hK => assumption); (case O => assumption); (case hn => first | exact Nat.le_of_ble_eq_true rfl | omega); (case a0 => wtm_at "syB0"); (case a1 => wtm_at "syB0"); (case b0 => wtm_at "syB0"); (case b1 => wtm_at "syB0")))
local macro_rules | `(tactic| wtm_at "syCmp") => `(tactic| ((with_reducible refine' cmp_fq_eqi ?hK ?O ?hn ?a0 ?a1 ?b0 ?b1 ?_); (case hK => assumption); (case O => assumption); (case hn => first | exact Nat.le_of_ble_eq_true rfl | omega); (case a0 => wtm_at "syB0"); (case a1 => wtm_at "syB0"); (case b0 => wtm_at "syB0"); (case b1 => wtm_at "syB0")))
local macro_rules | `(tactic| wtm_at "syCmp") => `(tactic| (with_reducible refine' cmp_gt ?_))
local macro_rules | `(tactic| wtm_at "syCmp") => `(tactic| (with_reducible refine' cmp_lt ?_))
local macro_rules | `(tactic| wtm_at "syCmp") => `(tactic| (with_reducible refine' cmp_ne ?_))
local macro_rules | `(tactic| wtm_at "syCmp") => `(tactic| (with_reducible refine' cmp_eq ?_))
local macro_rules | `(tactic| wtm_at "syInp") => `(tactic| ((with_reducible refine' inp_rsh ?hb ?_); (case hb => rfl)))
local macro_rules | `(tactic| wtm_at "syInp") => `(tactic| (with_reducible refine' inp_sub ?_))
local macro_rules | `(tactic| wtm_at "syInp") => `(tactic| (with_reducible refine' inp_add ?_))
local macro_rules | `(tactic| wtm_at "syInp") => `(tactic| ((with_reducible refine' inp_lists ?hfz ?hk ?hj ?hz ?_); (case hfz => assumption); (case hk => wtm_at "syHK"); (case hj => wtm_at "syHK"); (case hz => rfl)))
local macro_rules | `(tactic| wtm_at "sySub") => `(tactic| ((with_reducible refine' sub_tup ?hs ?h0 ?h1 ?hj ?hv ?_); (case hs => (intro _ _; rfl)); (case h0 => rfl); (case h1 => rfl); (case hj => rfl); (case hv => rfl)))
local macro_rules | `(tactic| wtm_at "sySub") => `(tactic| ((with_reducible refine' sub_lst ?hs ?hk ?h0 ?h1 ?hv ?_); (case hs => (intro _ _; rfl)); (case hk => wtm_at "syHK"); (case h0 => rfl); (case h1 => rfl); (case hv => rfl)))
local macro_rules | `(tactic| wtm_at "sySub") => `(tactic| ((with_reducible refine' sub_old ?O ?hs ?hi ?h0 ?h1 ?hv ?_); (case O => assumption); (case hs => (intro _ _; rfl)); (case hi => assumption); (case h0 => first | rfl | exact decide_eq_true (by omega)); (case h1 => first | rfl | exact decide_eq_true (by omega)); (case hv => assumption)))
local macro_rules | `(tactic| wtm_at "syF35") => `(tactic| (refine' callE (f := 35) ?hK ?hz ?hfr ?O ["p"] ?k1 ?k2 ?k3 ?k4 ?k5 ?k6 ?k7 ?k8 ?k9 ?hl ?hcz ?_; (case hK => assumption); (case O => first | assumption | exact Ok.up (by assumption) (by omega)); (case hz => first | assumption | rfl); (case hfr => first | exact .inr (by assumption) | exact .inl ⟨rfl, rfl⟩ | exact .inr rfl); (case k1 => k_is); (case k2 => intro xs hx; match xs, hx with | [_], _ => rfl); (case k3 => k_is); (case k4 => decide +kernel); (case k5 => decide +kernel); (case k6 => decide +kernel); (case k7 => rfl); (case k8 => rfl); (case k9 => rfl); (case hl => rfl); (case hcz => first | exact .inr rfl | exact .inl rfl | exact .inl (by assumption)); intro _ _ _ _ _ _))
local macro_rules | `(tactic| wtm_at "syF40") => `(tactic| (refine' callE (f := 40) ?hK ?hz ?hfr ?O ["a", "b"] ?k1 ?k2 ?k3 ?k4 ?k5 ?k6 ?k7 ?k8 ?k9 ?hl ?hcz ?_; (case hK => assumption); (case O => first | assumption | exact Ok.up (by assumption) (by omega)); (case hz => first | assumption | rfl); (case hfr => first | exact .inr (by assumption) | exact .inl ⟨rfl, rfl⟩ | exact .inr rfl); (case k1 => k_is); (case k2 => intro xs hx; match xs, hx with | [_, _], _ => rfl); (case k3 => k_is); (case k4 => decide +kernel); (case k5 => decide +kernel); (case k6 => decide +kernel); (case k7 => rfl); (case k8 => rfl); (case k9 => rfl); (case hl => rfl); (case hcz => first | exact .inr rfl | exact .inl rfl | exact .inl (by assumption)); intro _ _ _ _ _ _))
local macro_rules | `(tactic| wtm_at "syF166") => `(tactic| (refine' callE (f := 318) ?hK ?hz ?hfr ?O ["self", "val"] ?k1 ?k2 ?k3 ?k4 ?k5 ?k6 ?k7 ?k8 ?k9 ?hl ?hcz ?_; (case hK => assumption); (case O => first | assumption | exact Ok.up (by assumption) (by omega)); (case hz => first | assumption | rfl); (case hfr => first | exact .inr (by assumption) | exact .inl ⟨rfl, rfl⟩ | exact .inr rfl); (case k1 => k_is); (case k2 => intro xs hx; match xs, hx with | [_, _], _ => rfl); (case k3 => k_is); (case k4 => decide +kernel); (case k5 => decide +kernel); (case k6 => decide +kernel); (case k7 => rfl); (case k8 => rfl); (case k9 => rfl); (case hl => rfl); (case hcz => first | exact .inr rfl | exact .inl rfl | exact .inl (by assumption)); intro _ _ _ _ _ _))
local macro_rules | `(tactic| wtm_at "syF208") => `(tactic| (refine' callE (f := 360) ?hK ?hz ?hfr ?O ["self", "coeffs"] ?k1 ?k2 ?k3 ?k4 ?k5 ?k6 ?k7 ?k8 ?k9 ?hl ?hcz ?_; (case hK => assumption); (case O => first | assumption | exact Ok.up (by assumption) (by omega)); (case hz => first | assumption | rfl); (case hfr => first | exact .inr (by assumption) | exact .inl ⟨rfl, rfl⟩ | exact .inr rfl); (case k1 => k_is); (case k2 => intro xs hx; match xs, hx with | [_, _], _ => rfl); (case k3 => k_is); (case k4 => decide +kernel); (case k5 => decide +kernel); (case k6 => decide +kernel); (case k7 => rfl); (case k8 => rfl); (case k9 => rfl); (case hl => rfl); (case hcz => first | exact .inr rfl | exact .inl rfl | exact .inl (by assumption)); intro _ _ _ _ _ _))
local macro_rules | `(tactic| wtm_at "syF215") => `(tactic| (refine' callE (f := 367) ?hK ?hz ?hfr ?O ["self", "val"] ?k1 ?k2 ?k3 ?k4 ?k5 ?k6 ?k7 ?k8 ?k9 ?hl ?hcz ?_; (case hK => assumption); (case O => first | assumption | exact Ok.up (by assumption) (by omega)); (case hz => first | assumption | rfl); (case hfr => first | exact .inr (by assumption) | exact .inl ⟨rfl, rfl⟩ | exact .inr rfl); (case k1 => k_is); (case k2 => intro xs hx; match xs, hx with | [_, _], _ => rfl); (case k3 => k_is); (case k4 => decide +kernel); (case k5 => decide +kernel); (case k6 => decide +kernel); (case k7 => rfl); (case k8 => rfl); (case k9 => rfl); (case hl => rfl); (case hcz => first | exact .inr rfl | exact .inl rfl | exact .inl (by assumption)); intro _ _ _ _ _ _))
local macro_rules | `(tactic| wtm_at "syF220") => `(tactic| (refine' callE (f := 372) ?hK ?hz ?hfr ?O ["self", "other"] ?k1 ?k2 ?k3 ?k4 ?k5 ?k6 ?k7 ?k8 ?k9 ?hl ?hcz ?_; (case hK => assumption); (case O => first | assumption | exact Ok.up (by assumption) (by omega)); (case hz => first | assumption | rfl); (case hfr => first | exact .inr (by assumption) | exact .inl ⟨rfl, rfl⟩ | exact .inr rfl); (case k1 => k_is); (case k2 => intro xs hx; match xs, hx with | [_, _], _ => rfl); (case k3 => k_is); (case k4 => decide +kernel); (case k5 => decide +kernel); (case k6 => decide +kernel); (case k7 => rfl); (case k8 => rfl); (case k9 => rfl); (case hl => rfl); (case hcz => first | exact .inr rfl | exact .inl rfl | exact .inl (by assumption)); intro _ _ _ _ _ _))
local macro_rules | `(tactic| wtm_at "syF230") => `(tactic| (refine' callE (f := 382) ?hK ?hz ?hfr ?O ["self", "other"] ?k1 ?k2 ?k3 ?k4 ?k5 ?k6 ?k7 ?k8 ?k9 ?hl ?hcz ?_; (case hK => assumption); (case O => first | assumption | exact Ok.up (by assumption) (by omega)); (case hz => first | assumption | rfl); (case hfr => first | exact .inr (by assumption) | exact .inl ⟨rfl, rfl⟩ | exact .inr rfl); (case k1 => k_is); (case k2 => intro xs hx; match xs, hx with | [_, _], _ => rfl); (case k3 => k_is); (case k4 => decide +kernel); (case k5 => decide +kernel); (case k6 => decide +kernel); (case k7 => rfl); (case k8 => rfl); (case k9 => rfl); (case hl => rfl); (case hcz => first | exact .inr rfl | exact .inl rfl | exact .inl (by assumption)); intro _ _ _ _ _ _))
local macro_rules | `(tactic| wtm_at "syF242") => `(tactic| (refine' callE (f := 394) ?hK ?hz ?hfr ?O ["self", "other"] ?k1 ?k2 ?k3 ?k4 ?k5 ?k6 ?k7 ?k8 ?k9 ?hl ?hcz ?_; (case hK => assumption); (case O => first | assumption | exact Ok.up (by assumption) (by omega)); (case hz => first | assumption | rfl); (case hfr => first | exact .inr (by assumption) | exact .inl ⟨rfl, rfl⟩ | exact .inr rfl); (case k1 => k_is); (case k2 => intro xs hx; match xs, hx with | [_, _], _ => rfl); (case k3 => k_is); (case k4 => decide +kernel); (case k5 => decide +kernel); (case k6 => decide +kernel); (case k7 => rfl); (case k8 => rfl); (case k9 => rfl); (case hl => rfl); (case hcz => first | exact .inr rfl | exact .inl rfl | exact .inl (by assumption)); intro _ _ _ _ _ _))
local macro_rules | `(tactic| wtm_at "syF249") => `(tactic| (refine' callE (f := 401) ?hK ?hz ?hfr ?O ["self", "other"] ?k1 ?k2 ?k3 ?k4 ?k5 ?k6 ?k7 ?k8 ?k9 ?hl ?hcz ?_; (case hK => assumption); (case O => first | assumption | exact Ok.up (by assumption) (by omega)); (case hz => first | assumption | rfl); (case hfr => first | exact .inr (by assumption) | exact .inl ⟨rfl, rfl⟩ | exact .inr rfl); (case k1 => k_is); (case k2 => intro xs hx; match xs, hx with | [_, _], _ => rfl); (case k3 => k_is); (case k4 => decide +kernel); (case k5 => decide +kernel); (case k6 => decide +kernel); (case k7 => rfl); (case k8 => rfl); (case k9 => rfl); (case hl => rfl); (case hcz => first | exact .inr rfl | exact .inl rfl | exact .inl (by assumption)); intro _ _ _ _ _ _))
local macro_rules | `(tactic| wtm_at "syF254") => `(tactic| (refine' callE (f := 406) ?hK ?hz ?hfr ?O ["self"] ?k1 ?k2 ?k3 ?k4 ?k5 ?k6 ?k7 ?k8 ?k9 ?hl ?hcz ?_; (case hK => assumption); (case O => first | assumption | exact Ok.up (by assumption) (by omega)); (case hz => first | assumption | rfl); (case hfr => first | exact .inr (by assumption) | exact .inl ⟨rfl, rfl⟩ | exact .inr rfl); (case k1 => k_is); (case k2 => intro xs hx; match xs, hx with | [_], _ => rfl); (case k3 => k_is); (case k4 => decide +kernel); (case k5 => decide +kernel); (case k6 => decide +kernel); (case k7 => rfl); (case k8 => rfl); (case k9 => rfl); (case hl => rfl); (case hcz => first | exact .inr rfl | exact .inl rfl | exact .inl (by assumption)); intro _ _ _ _ _ _))
local macro_rules | `(tactic| wtm_at "syF320") => `(tactic| (refine' callE (f := 59) ?hK ?hz ?hfr ?O ["self", "coeffs"] ?k1 ?k2 ?k3 ?k4 ?k5 ?k6 ?k7 ?k8 ?k9 ?hl ?hcz ?_; (case hK => assumption); (case O => first | assumption | exact Ok.up (by assumption) (by omega)); (case hz => first | assumption | rfl); (case hfr => first | exact .inr (by assumption) | exact .inl ⟨rfl, rfl⟩ | exact .inr rfl); (case k1 => k_is); (case k2 => intro xs hx; match xs, hx with | [_, _], _ => rfl); (case k3 => k_is); (case k4 => decide +kernel); (case k5 => decide +kernel); (case k6 => decide +kernel); (case k7 => rfl); (case k8 => rfl); (case k9 => rfl); (case hl => rfl); (case hcz => first | exact .inr rfl | exact .inl rfl | exact .inl (by assumption)); intro _ _ _ _ _ _))
local macro_rules | `(tactic| wtm_at "syF325") => `(tactic| (refine' callE (f := 64) ?hK ?hz ?hfr ?O ["self", "other"] ?k1 ?k2 ?k3 ?k4 ?k5 ?k6 ?k7 ?k8 ?k9 ?hl ?hcz ?_; (case hK => assumption); (case O => first | assumption | exact Ok.up (by assumption) (by omega)); (case hz => first | assumption | rfl); (case hfr => first | exact .inr (by assumption) | exact .inl ⟨rfl, rfl⟩ | exact .inr rfl); (case k1 => k_is); (case k2 => intro xs hx; match xs, hx with | [_, _], _ => rfl); (case k3 => k_is); (case k4 => decide +kernel); (case k5 => decide +kernel); (case k6 => decide +kernel); (case k7 => rfl); (case k8 => rfl); (case k9 => rfl); (case hl => rfl); (case hcz => first | exact .inr rfl | exact .inl rfl | exact .inl (by assumption)); intro _ _ _ _ _ _))
local macro_rules | `(tactic| wtm_at "syF342") => `(tactic| (refine' callE (f := 81) ?hK ?hz ?hfr ?O ["self", "other"] ?k1 ?k2 ?k3 ?k4 ?k5 ?k6 ?k7 ?k8 ?k9 ?hl ?hcz ?_; (case hK => assumption); (case O => first | assumption | exact Ok.up (by assumption) (by omega)); (case hz => first | assumption | rfl); (case hfr => first | exact .inr (by assumption) | exact .inl ⟨rfl, rfl⟩ | exact .inr rfl); (case k1 => k_is); (case k2 => intro xs hx; match xs, hx with | [_, _], _ => rfl); (case k3 => k_is); (case k4 => decide +kernel); (case k5 => decide +kernel); (case k6 => decide +kernel); (case k7 => rfl); (case k8 => rfl); (case k9 => rfl); (case hl => rfl); (case hcz => first | exact .inr rfl | exact .inl rfl | exact .inl (by assumption)); intro _ _ _ _ _ _))
local macro_rules | `(tactic| wtm_at "syF354") => `(tactic| (refine' callE (f := 93) ?hK ?hz ?hfr ?O ["self", "other"] ?k1 ?k2 ?k3 ?k4 ?k5 ?k6 ?k7 ?k8 ?k9 ?hl ?hcz ?_; (case hK => assumption); (case O => first | assumption | exact Ok.up (by assumption) (by omega)); (case hz => first | assumption | rfl); (case hfr => first | exact .inr (by assumption) | exact .inl ⟨rfl, rfl⟩ | exact .inr rfl); (case k1 => k_is); (case k2 => intro xs hx; match xs, hx with | [_, _], _ => rfl); (case k3 => k_is); (case k4 => decide +kernel); (case k5 => decide +kernel); (case k6 => decide +kernel); (case k7 => rfl); (case k8 => rfl); (case k9 => rfl); (case hl => rfl); (case hcz => first | exact .inr rfl | exact .inl rfl | exact .inl (by assumption)); intro _ _ _ _ _ _))
local macro_rules | `(tactic| wtm_at "syF361") => `(tactic| (refine' callE (f := 100) ?hK ?hz ?hfr ?O ["self", "other"] ?k1 ?k2 ?k3 ?k4 ?k5 ?k6 ?k7 ?k8 ?k9 ?hl ?hcz ?_; (case hK => assumption); (case O => first | assumption | exact Ok.up (by assumption) (by omega)); (case hz => first | assumption | rfl); (case hfr => first | exact .inr (by assumption) | exact .inl ⟨rfl, rfl⟩ | exact .inr rfl); (case k1 => k_is); (case k2 => intro xs hx; match xs, hx with | [_, _], _ => rfl); (case k3 => k_is); (case k4 => decide +kernel); (case k5 => decide +kernel); (case k6 => decide +kernel); (case k7 => rfl); (case k8 => rfl); (case k9 => rfl); (case hl => rfl); (case hcz => first | exact .inr rfl | exact .inl rfl | exact .inl (by assumption)); intro _ _ _ _ _ _))
local macro_rules | `(tactic| wtm_at "syF366") => `(tactic| (refine' callE (f := 105) ?hK ?hz ?hfr ?O ["self", "a", "b"] ?k1 ?k2 ?k3 ?k4 ?k5 ?k6 ?k7 ?k8 ?k9 ?hl ?hcz ?_; (case hK => assumption); (case O => first | assumption | exact Ok.up (by assumption) (by omega)); (case hz => first | assumption | rfl); (case hfr => first | exact .inr (by assumption) | exact .inl ⟨rfl, rfl⟩ | exact .inr rfl); (case k1 => k_is); (case k2 => intro xs hx; match xs, hx with | [_, _, _], _ => rfl); (case k3 => k_is); (case k4 => decide +kernel); (case k5 => decide +kernel); (case k6 => decide +kernel); (case k7 => rfl); (case k8 => rfl); (case k9 => rfl); (case hl => rfl); (case hcz => first | exact .inr rfl | exact .inl rfl | exact .inl (by assumption)); intro _ _ _ _ _ _))
local macro_rules | `(tactic| wtm_at "syF371") => `(tactic| (refine' callE (f := 110) ?hK ?hz ?hfr ?O ["self"] ?k1 ?k2 ?k3 ?k4 ?k5 ?k6 ?k7 ?k8 ?k9 ?hl ?hcz ?_; (case hK => assumption); (case O => first | assumption | exact Ok.up (by assumption) (by omega)); (case hz => first | assumption | rfl); (case hfr => first | exact .inr (by assumption) | exact .inl ⟨rfl, rfl⟩ | exact .inr rfl); (case k1 => k_is); (case k2 => intro xs hx; match xs, hx with | [_], _ => rfl); (case k3 => k_is); (case k4 => decide +kernel); (case k5 => decide +kernel); (case k6 => decide +kernel); (case k7 => rfl); (case k8 => rfl); (case k9 => rfl); (case hl => rfl); (case hcz => first | exact .inr rfl | exact .inl rfl | exact .inl (by assumption)); intro _ _ _ _ _ _))
local macro_rules | `(tactic| wtm_at "syF440") => `(tactic| (refine' callE (f := 179) ?hK ?hz ?hfr ?O ["self", "coeffs"] ?k1 ?k2 ?k3 ?k4 ?k5 ?k6 ?k7 ?k8 ?k9 ?hl ?hcz ?_; (case hK => assumption); (case O => first | assumption | exact Ok.up (by assumption) (by omega)); (case hz => first | assumption | rfl); (case hfr => first | exact .inr (by assumption) | exact .inl ⟨rfl, rfl⟩ | exact .inr rfl); (case k1 => k_is); (case k2 => intro xs hx; match xs, hx with | [_, _], _ => rfl); (case k3 => k_is); (case k4 => decide +kernel); (case k5 => decide +kernel); (case k6 => decide +kernel); (case k7 => rfl); (case k8 => rfl); (case k9 => rfl); (case hl => rfl); (case hcz => first | exact .inr rfl | exact .inl rfl | exact .inl (by assumption)); intro _ _ _ _ _ _))
local macro_rules | `(tactic| wtm_at "syF460") => `(tactic| (refine' callE (f := 460) ?hK ?hz ?hfr ?O [] ?k1 ?k2 ?k3 ?k4 ?k5 ?k6 ?k7 ?k8 ?k9 ?hl ?hcz ?_; (case hK => assumption); (case O => first | assumption | exact Ok.up (by assumption) (by omega)); (case hz => first | assumption | rfl); (case hfr => first | exact .inr (by assumption) | exact .inl ⟨rfl, rfl⟩ | exact .inr rfl); (case k1 => k_is); (case k2 => intro xs hx; match xs, hx with | [], _ => rfl); (case k3 => k_is); (case k4 => decide +kernel); (case k5 => decide +kernel); (case k6 => decide +kernel); (case k7 => rfl); (case k8 => rfl); (case k9 => rfl); (case hl => rfl); (case hcz => first | exact .inr rfl | exact .inl rfl | exact .inl (by assumption)); intro _ _ _ _ _ _))
local macro_rules | `(tactic| wtm_at "syF467") => `(tactic| (refine' callE (f := 467) ?hK ?hz ?hfr ?O ["script", "k"] ?k1 ?k2 ?k3 ?k4 ?k5 ?k6 ?k7 ?k8 ?k9 ?hl ?hcz ?_; (case hK => assumption); (case O => first | assumption | exact Ok.up (by assumption) (by omega)); (case hz => first | assumption | rfl); (case hfr => first | exact .inr (by assumption) | exact .inl ⟨rfl, rfl⟩ | exact .inr rfl); (case k1 => k_is); (case k2 => intro xs hx; match xs, hx with | [_, _], _ => rfl); (case k3 => k_is); (case k4 => decide +kernel); (case k5 => decide +kernel); (case k6 => decide +kernel); (case k7 => rfl); (case k8 => rfl); (case k9 => rfl); (case hl => rfl); (case hcz => first | exact .inr rfl | exact .inl rfl | exact .inl (by assumption)); intro _ _ _ _ _ _))
local macro_rules | `(tactic| wtm_at "syF474") => `(tactic| (refine' callE (f := 474) ?hK ?hz ?hfr ?O ["numbers", "p", "kind"] ?k1 ?k2 ?k3 ?k4 ?k5 ?k6 ?k7 ?k8 ?k9 ?hl ?hcz ?_; (case hK => assumption); (case O => first | assumption | exact Ok.up (by assumption) (by omega)); (case hz => first | assumption | rfl); (case hfr => first | exact .inr (by assumption) | exact .inl ⟨rfl, rfl⟩ | exact .inr rfl); (case k1 => k_is); (case k2 => intro xs hx; match xs, hx with | [_, _, _], _ => rfl); (case k3 => k_is); (case k4 => decide +kernel); (case k5 => decide +kernel); (case k6 => decide +kernel); (case k7 => rfl); (case k8 => rfl); (case k9 => rfl); (case hl => rfl); (case hcz => first | exact .inr rfl | exact .inl rfl | exact .inl (by assumption)); intro _ _ _ _ _ _))
local macro_rules | `(tactic| wtm_at "syF479") => `(tactic| (refine' callE (f := 479) ?hK ?hz ?hfr ?O ["element", "p"] ?k1 ?k2 ?k3 ?k4 ?k5 ?k6 ?k7 ?k8 ?k9 ?hl ?hcz ?_; (case hK => assumption); (case O => first | assumption | exact Ok.up (by assumption) (by omega)); (case hz => first | assumption | rfl); (case hfr => first | exact .inr (by assumption) | exact .inl ⟨rfl, rfl⟩ | exact .inr rfl); (case k1 => k_is); (case k2 => intro xs hx; match xs, hx with | [_, _], _ => rfl); (case k3 => k_is); (case k4 => decide +kernel); (case k5 => decide +kernel); (case k6 => decide +kernel); (case k7 => rfl); (case k8 => rfl); (case k9 => rfl); (case hl => rfl); (case hcz => first | exact .inr rfl | exact .inl rfl | exact .inl (by assumption)); intro _ _ _ _ _ _))
local macro_rules | `(tactic| wtm_at "syF486") => `(tactic| (refine' callE (f := 486) ?hK ?hz ?hfr ?O ["slope", "p"] ?k1 ?k2 ?k3 ?k4 ?k5 ?k6 ?k7 ?k8 ?k9 ?hl ?hcz ?_; (case hK => assumption); (case O => first | assumption | exact Ok.up (by assumption) (by omega)); (case hz => first | assumption | rfl); (case hfr => first | exact .inr (by assumption) | exact .inl ⟨rfl, rfl⟩ | exact .inr rfl); (case k1 => k_is); (case k2 => intro xs hx; match xs, hx with | [_, _], _ => rfl); (case k3 => k_is); (case k4 => decide +kernel); (case k5 => decide +kernel); (case k6 => decide +kernel); (case k7 => rfl); (case k8 => rfl); (case k9 => rfl); (case hl => rfl); (case hcz => first | exact .inr rfl | exact .inl rfl | exact .inl (by assumption)); intro _ _ _ _ _ _))
local macro_rules | `(tactic| wtm_at "syF493") => `(tactic| (refine' callE (f := 493) ?hK ?hz ?hfr ?O ["first", "count", "second", "p"] ?k1 ?k2 ?k3 ?k4 ?k5 ?k6 ?k7 ?k8 ?k9 ?hl ?hcz ?_; (case hK => assumption); (case O => first | assumption | exact Ok.up (by assumption) (by omega)); (case hz => first | assumption | rfl); (case hfr => first | exact .inr (by assumption) | exact .inl ⟨rfl, rfl⟩ | exact .inr rfl); (case k1 => k_is); (case k2 => intro xs hx; match xs, hx with | [_, _, _, _], _ => rfl); (case k3 => k_is); (case k4 => decide +kernel); (case k5 => decide +kernel); (case k6 => decide +kernel); (case k7 => rfl); (case k8 => rfl); (case k9 => rfl); (case hl => rfl); (case hcz => first | exact .inr rfl | exact .inl rfl | exact .inl (by assumption)); intro _ _ _ _ _ _))
local macro_rules | `(tactic| wtm_at "syF500") => `(tactic| (refine' callE (f := 500) ?hK ?hz ?hfr ?O ["one", "other"] ?k1 ?k2 ?k3 ?k4 ?k5 ?k6 ?k7 ?k8 ?k9 ?hl ?hcz ?_; (case hK => assumption); (case O => first | assumption | exact Ok.up (by assumption) (by omega)); (case hz => first | assumption | rfl); (case hfr => first | exact .inr (by assumption) | exact .inl ⟨rfl, rfl⟩ | exact .inr rfl); (case k1 => k_is); (case k2 => intro xs hx; match xs, hx with | [_, _], _ => rfl); (case k3 => k_is); (case k4 => decide +kernel); (case k5 => decide +kernel); (case k6 => decide +kernel); (case k7 => rfl); (case k8 => rfl); (case k9 => rfl); (case hl => rfl); (case hcz => first | exact .inr rfl | exact .inl rfl | exact .inl (by assumption)); intro _ _ _ _ _ _))
local macro_rules | `(tactic| wtm_at "syF9124") => `(tactic| (refine' callE (f := 124) ?hK ?hz ?hfr ?O ["self", "other"] ?k1 ?k2 ?k3 ?k4 ?k5 ?k6 ?k7 ?k8 ?k9 ?hl ?hcz ?_; (case hK => assumption); (case O => first | assumption | exact Ok.up (by assumption) (by omega)); (case hz => first | assumption | rfl); (case hfr => first | exact .inr (by assumption) | exact .inl ⟨rfl, rfl⟩ | exact .inr rfl); (case k1 => k_is); (case k2 => intro xs hx; match xs, hx with | [_, _], _ => rfl); (case k3 => k_is); (case k4 => decide +kernel); (case k5 => decide +kernel); (case k6 => decide +kernel); (case k7 => rfl); (case k8 => rfl); (case k9 => rfl); (case hl => rfl); (case hcz => first | exact .inr rfl | exact .inl rfl | exact .inl (by assumption)); intro _ _ _ _ _ _))
local macro_rules | `(tactic| wtm_at "syF9213") => `(tactic| (refine' callE (f := 213) ?hK ?hz ?hfr ?O ["self", "other"] ?k1 ?k2 ?k3 ?k4 ?k5 ?k6 ?k7 ?k8 ?k9 ?hl ?hcz ?_; (case hK => assumption); (case O => first | assumption | exact Ok.up (by assumption) (by omega)); (case hz => first | assumption | rfl); (case hfr => first | exact .inr (by assumption) | exact .inl ⟨rfl, rfl⟩ | exact .inr rfl); (case k1 => k_is); (case k2 => intro xs hx; match xs, hx with | [_, _], _ => rfl); (case k3 => k_is); (case k4 => decide +kernel); (case k5 => decide +kernel); (case k6 => decide +kernel); (case k7 => rfl); (case k8 => rfl); (case k9 => rfl); (case hl => rfl); (case hcz => first | exact .inr rfl | exact .inl rfl | exact .inl (by assumption)); intro _ _ _ _ _ _))
local macro_rules | `(tactic| wtm_at "syF9220") => `(tactic| (refine' callE (f := 220) ?hK ?hz ?hfr ?O ["self", "other"] ?k1 ?k2 ?k3 ?k4 ?k5 ?k6 ?k7 ?k8 ?k9 ?hl ?hcz ?_; (case hK => assumption); (case O => first | assumption | exact Ok.up (by assumption) (by omega)); (case hz => first | assumption | rfl); (case hfr => first | exact .inr (by assumption) | exact .inl ⟨rfl, rfl⟩ | exact .inr rfl); (case k1 => k_is); (case k2 => intro xs hx; match xs, hx with | [_, _], _ => rfl); (case k3 => k_is); (case k4 => decide +kernel); (case k5 => decide +kernel); (case k6 => decide +kernel); (case k7 => rfl); (case k8 => rfl); (case k9 => rfl); (case hl => rfl); (case hcz => first | exact .inr rfl | exact .inl rfl | exact .inl (by assumption)); intro _ _ _ _ _ _))
local macro_rules | `(tactic| wtm_at "syF9241") => `(tactic| (refine' callE (f := 241) ?hK ?hz ?hfr ?O ["self", "other"] ?k1 ?k2 ?k3 ?k4 ?k5 ?k6 ?k7 ?k8 ?k9 ?hl ?hcz ?_; (case hK => assumption); (case O => first | assumption | exact Ok.up (by assumption) (by omega)); (case hz => first | assumption | rfl); (case hfr => first | exact .inr (by assumption) | exact .inl ⟨rfl, rfl⟩ | exact .inr rfl); (case k1 => k_is); (case k2 => intro xs hx; match xs, hx with | [_, _], _ => rfl); (case k3 => k_is); (case k4 => decide +kernel); (case k5 => decide +kernel); (case k6 => decide +kernel); (case k7 => rfl); (case k8 => rfl); (case k9 => rfl); (case hl => rfl); (case hcz => first | exact .inr rfl | exact .inl rfl | exact .inl (by assumption)); intro _ _ _ _ _ _))
local macro_rules | `(tactic| wtm_at "syF9248") => `(tactic| (refine' callE (f := 248) ?hK ?hz ?hfr ?O ["self", "other"] ?k1 ?k2 ?k3 ?k4 ?k5 ?k6 ?k7 ?k8 ?k9 ?hl ?hcz ?_; (case hK => assumption); (case O => first | assumption | exact Ok.up (by assumption) (by omega)); (case hz => first | assumption | rfl); (case hfr => first | exact .inr (by assumption) | exact .inl ⟨rfl, rfl⟩ | exact .inr rfl); (case k1 => k_is); (case k2 => intro xs hx; match xs, hx with | [_, _], _ => rfl); (case k3 => k_is); (case k4 => decide +kernel); (case k5 => decide +kernel); (case k6 => decide +kernel); (case k7 => rfl); (case k8 => rfl); (case k9 => rfl); (case hl => rfl); (case hcz => first | exact .inr rfl | exact .inl rfl | exact .inl (by assumption)); intro _ _ _ _ _ _))
local macro_rules | `(tactic| wtm_at "syF9255") => `(tactic| (refine' callE (f := 255) ?hK ?hz ?hfr ?O ["self", "other"] ?k1 ?k2 ?k3 ?k4 ?k5 ?k6 ?k7 ?k8 ?k9 ?hl ?hcz ?_; (case hK => assumption); (case O => first | assumption | exact Ok.up (by assumption) (by omega)); (case hz => first | assumption | rfl); (case hfr => first | exact .inr (by assumption) | exact .inl ⟨rfl, rfl⟩ | exact .inr rfl); (case k1 => k_is); (case k2 => intro xs hx; match xs, hx with | [_, _], _ => rfl); (case k3 => k_is); (case k4 => decide +kernel); (case k5 => decide +kernel); (case k6 => decide +kernel); (case k7 => rfl); (case k8 => rfl); (case k9 => rfl); (case hl => rfl); (case hcz => first | exact .inr rfl | exact .inl rfl | exact .inl (by assumption)); intro _ _ _ _ _ _))
local macro_rules | `(tactic| wtm_at "syF9262") => `(tactic| (refine' callE (f := 262) ?hK ?hz ?hfr ?O ["self", "other"] ?k1 ?k2 ?k3 ?k4 ?k5 ?k6 ?k7 ?k8 ?k9 ?hl ?hcz ?_; (case hK => assumption); (case O => first | assumption | exact Ok.up (by assumption) (by omega)); (case hz => first | assumption | rfl); (case hfr => first | exact .inr (by assumption) | exact .inl ⟨rfl, rfl⟩ | exact .inr rfl); (case k1 => k_is); (case k2 => intro xs hx; match xs, hx with | [_, _], _ => rfl); (case k3 => k_is); (case k4 => decide +kernel); (case k5 => decide +kernel); (case k6 => decide +kernel); (case k7 => rfl); (case k8 => rfl); (case k9 => rfl); (case hl => rfl); (case hcz => first | exact .inr rfl | exact .inl rfl | exact .inl (by assumption)); intro _ _ _ _ _ _))
local macro_rules | `(tactic| wtm_at "syF9151") => `(tactic| (refine' callE (f := 151) ?hK ?hz ?hfr ?O ["self"] ?k1 ?k2 ?k3 ?k4 ?k5 ?k6 ?k7 ?k8 ?k9 ?hl ?hcz ?_; (case hK => assumption); (case O => first | assumption | exact Ok.up (by assumption) (by omega)); (case hz => first | assumption | rfl); (case hfr => first | exact .inr (by assumption) | exact .inl ⟨rfl, rfl⟩ | exact .inr rfl); (case k1 => k_is); (case k2 => intro xs hx; match xs, hx with | [_], _ => rfl); (case k3 => k_is); (case k4 => decide +kernel); (case k5 => decide +kernel); (case k6 => decide +kernel); (case k7 => rfl); (case k8 => rfl); (case k9 => rfl); (case hl => rfl); (case hcz => first | exact .inr rfl | exact .inl rfl | exact .inl (by assumption)); intro _ _ _ _ _ _))
local macro_rules | `(tactic| wtm_at "syF9420") => `(tactic| (refine' callE (f := 420) ?hK ?hz ?hfr ?O ["self", "other"] ?k1 ?k2 ?k3 ?k4 ?k5 ?k6 ?k7 ?k8 ?k9 ?hl ?hcz ?_; (case hK => assumption); (case O => first | assumption | exact Ok.up (by assumption) (by omega)); (case hz => first | assumption | rfl); (case hfr => first | exact .inr (by assumption) | exact .inl ⟨rfl, rfl⟩ | exact .inr rfl); (case k1 => k_is); (case k2 => intro xs hx; match xs, hx with | [_, _], _ => rfl); (case k3 => k_is); (case k4 => decide +kernel); (case k5 => decide +kernel); (case k6 => decide +kernel); (case k7 => rfl); (case k8 => rfl); (case k9 => rfl); (case hl => rfl); (case hcz => first | exact .inr rfl | exact .inl rfl | exact .inl (by assumption)); intro _ _ _ _ _ _))
local macro_rules | `(tactic| wtm_at "syF9439") => `(tactic| (refine' callE (f := 439) ?hK ?hz ?hfr ?O ["self"] ?k1 ?k2 ?k3 ?k4 ?k5 ?k6 ?k7 ?k8 ?k9 ?hl ?hcz ?_; (case hK => assumption); (case O => first | assumption | exact Ok.up (by assumption) (by omega)); (case hz => first | assumption | rfl); (case hfr => first | exact .inr (by assumption) | exact .inl ⟨rfl, rfl⟩ | exact .inr rfl); (case k1 => k_is); (case k2 => intro xs hx; match xs, hx with | [_], _ => rfl); (case k3 => k_is); (case k4 => decide +kernel); (case k5 => decide +kernel); (case k6 => decide +kernel); (case k7 => rfl); (case k8 => rfl); (case k9 => rfl); (case hl => rfl); (case hcz => first | exact .inr rfl | exact .inl rfl | exact .inl (by assumption)); intro _ _ _ _ _ _))
local macro_rules | `(tactic| wtm_at "syDef0") => `(tactic| wtm_at "syF440")
local macro_rules | `(tactic| wtm_at "syDef0") => `(tactic| wtm_at "syF320")
local macro_rules | `(tactic| wtm_at "syDef0") => `(tactic| wtm_at "syF215")
local macro_rules | `(tactic| wtm_at "syDef0") => `(tactic| wtm_at "syF208")
local macro_rules | `(tactic| wtm_at "syDef0") => `(tactic| wtm_at "syF166")
local macro_rules | `(tactic| wtm_at "syDef0") => `(tactic| wtm_at "syF35")
local macro_rules | `(tactic| wtm_at "syDef") => `(tactic| ((with_reducible show CallS _ _ (V.old (.ref 318)) _ _ _); wtm_at "syF166"))
local macro_rules | `(tactic| wtm_at "syDef") => `(tactic| ((with_reducible show CallS _ _ (V.old (.ref 179)) _ _ _); wtm_at "syF440"))
local macro_rules | `(tactic| wtm_at "syDef") => `(tactic| ((with_reducible show CallS _ _ (V.old (.ref 59)) _ _ _); wtm_at "syF320"))
local macro_rules | `(tactic| wtm_at "syDef") => `(tactic| ((with_reducible show CallS _ _ (V.old (.ref 360)) _ _ _); wtm_at "syF208"))
local macro_rules | `(tactic| wtm_at "syDef") => `(tactic| ((with_reducible show CallS _ _ (V.old (.ref 367)) _ _ _); wtm_at "syF215"))
local macro_rules | `(tactic| wtm_at "syDef") => `(tactic| ((with_reducible show CallS _ _ (V.old (.ref 40)) _ _ _); wtm_at "syF40"))
local macro_rules | `(tactic| wtm_at "syDef") => `(tactic| ((with_reducible show CallS _ _ (V.old (.ref 35)) _ _ _); wtm_at "syF35"))
local macro_rules | `(tactic| wtm_at "syCo") => `(tactic| ((with_reducible refine coefI ?_ ?_); (wtm_at "syB0"); (wtm_at "syB0")))
local macro_rules | `(tactic| wtm_at "syCo") => `(tactic| ((with_reducible refine coefF ?_ ?_ ?_); (wtm_at "syB0"); (wtm_at "syB0"); assumption))
local macro_rules | `(tactic| wtm_at "meq") => `(tactic| (refine' meq_fin ?h ?e; (case h => (repeat first | with_reducible apply MEq.fm | with_reducible apply MEq.sub | with_reducible apply MEq.add | with_reducible apply MEq.mul | with_reducible exact MEq.rfl')); (case e => wtm_at "ring")))
local macro_rules | `(tactic| wtm_at "ring") => `(tactic| (simp only [Int.zero_add, Int.add_zero, Int.sub_zero, Int.zero_mul, Int.mul_zero, Int.one_mul, Int.mul_one, Int.sub_mul, Int.add_mul, Int.mul_sub, Int.mul_add, Int.mul_assoc, Int.mul_comm, Int.mul_left_comm]; try omega))
local macro_rules | `(tactic| wtm_at "syCt") => `(tactic| fail)
local macro_rules | `(tactic| wtm_at "syInt") => `(tactic| exact Eq.refl (5 : Int))
local macro_rules | `(tactic| wtm_at "syInt") => `(tactic| exact Eq.refl (4 : Int))
local macro_rules | `(tactic| wtm_at "syInt") => `(tactic| exact Eq.refl (-1 : Int))
local macro_rules | `(tactic| wtm_at "syInt") => `(tactic| exact Eq.refl (3 : Int))
local macro_rules | `(tactic| wtm_at "syInt") => `(tactic| exact Eq.refl (2 : Int))
local macro_rules | `(tactic| wtm_at "syInt") => `(tactic| exact Eq.refl (1 : Int))
local macro_rules | `(tactic| wtm_at "syInt") => `(tactic| exact Eq.refl (0 : Int))
local macro_rules | `(tactic| wtm_at "syNorm") => `(tactic| rfl)
local macro_rules | `(tactic| wtm_at "syNorm") => `(tactic| (conv => lhs; simp only [setL, List.set_cons_zero, List.set_cons_succ, List.length_cons, List.length_nil, List.cons_append, List.nil_append, List.take_succ_cons, List.take_zero, List.replicate_succ, List.replicate_zero, List.zip_cons_cons, List.zip_nil_left, List.zip_nil_right, List.dropLast_cons_cons, List.dropLast_singleton, Int.zero_add, Int.add_zero, Int.sub_zero, Int.zero_mul, Int.mul_zero, Int.one_mul, Int.mul_one, Int.zero_fmod, Int.sub_self, Int.reduceAdd, Int.reduceMul, Int.reduceSub, Int.reduceToNat, Nat.reduceAdd, Int.cast_ofNat_Int]))
local macro_rules | `(tactic| wtm_at "syMul") => `(tactic| exact mulOk _ _ (by omega) (by omega))
local macro_rules | `(tactic| wtm_at "syMul") => `(tactic| exact mulOkL _ _ (by omega) (by omega))
local macro_rules | `(tactic| wtm_at "syMul") => `(tactic| exact mulOkL _ _ (by decide) (by decide))
local macro_rules | `(tactic| wtm_at "syMul") => `(tactic| with_reducible assumption)
local macro_rules | `(tactic| wtm_at "syNe") => `(tactic| omega)
local macro_rules | `(tactic| wtm_at "syNe") => `(tactic| decide)
local macro_rules | `(tactic| wtm_at "syNe") => `(tactic| with_reducible assumption)
local macro_rules | `(tactic| wtm_at "sySrc") => `(tactic| ((with_reducible refine' src_rng ?O 7 ?hsm ?hn ?_); (case O => assumption); (case hsm => rfl); (case hn => rfl)))
local macro_rules | `(tactic| wtm_at "sySrc") => `(tactic| ((with_reducible refine' src_rng ?O 6 ?hsm ?hn ?_); (case O => assumption); (case hsm => rfl); (case hn => rfl)))
local macro_rules | `(tactic| wtm_at "sySrc") => `(tactic| ((with_reducible refine' src_rng ?O 5 ?hsm ?hn ?_); (case O => assumption); (case hsm => rfl); (case hn => rfl)))
local macro_rules | `(tactic| wtm_at "sySrc") => `(tactic| ((with_reducible refine' src_rng ?O 4 ?hsm ?hn ?_); (case O => assumption); (case hsm => rfl); (case hn => rfl)))
local macro_rules | `(tactic| wtm_at "sySrc") => `(tactic| ((with_reducible refine' src_rng ?O 3 ?hsm ?hn ?_); (case O => assumption); (case hsm => rfl); (case hn => rfl)))
local macro_rules | `(tactic| wtm_at "sySrc") => `(tactic| ((with_reducible refine' src_rng ?O 2 ?hsm ?hn ?_); (case O => assumption); (case hsm => rfl); (case hn => rfl)))
local macro_rules | `(tactic| wtm_at "sySrc") => `(tactic| ((with_reducible refine' src_rng ?O 1 ?hsm ?hn ?_); (case O => assumption); (case hsm => rfl); (case hn => rfl)))
local macro_rules | `(tactic| wtm_at "sySrc") => `(tactic| ((with_reducible refine' src_rng ?O 0 ?hsm ?hn ?_); (case O => assumption); (case hsm => rfl); (case hn => rfl)))
local macro_rules | `(tactic| wtm_at "sySrc") => `(tactic| ((with_reducible refine' src_rngK ?O ?hR ?_); (case O => assumption); (case hR => assumption)))
local macro_rules | `(tactic| wtm_at "sySrc") => `(tactic| ((with_reducible refine' src_fl ?O ?_); (case O => assumption)))
local macro_rules | `(tactic| wtm_at "sySrc") => `(tactic| ((with_reducible refine' src_lst ?O ?hk ?_); (case O => assumption); (case hk => wtm_at "syHK")))
local macro_rules | `(tactic| wtm_at "sySrc") => `(tactic| ((with_reducible refine' src_tup ?O ?hg ?_); (case O => assumption); (case hg => first | (intro _ _; exact .inl rfl) | (intro _ _; exact .inr ⟨_, _, _, rfl⟩))))
local macro_rules | `(tactic| wtm_at "syTg") => `(tactic| exact .inr ⟨_, _, _, _, _, _, rfl, rfl, rfl, by decide, tg_pair _⟩)
local macro_rules | `(tactic| wtm_at "syTg") => `(tactic| exact .inl ⟨_, _, rfl, rfl, tg_rng _ _ _⟩)
local macro_rules | `(tactic| wtm_at "syTg") => `(tactic| exact .inl ⟨_, _, rfl, rfl, tg_val _⟩)
local macro_rules | `(tactic| wtm_at "syComp") => `(tactic| refine cp_nil ?_)
local macro_rules | `(tactic| wtm_at "syComp") => `(tactic| ((refine' cpc ?hE _ ?he ?_); (case hE => assumption); (case he => (intro _ _ _ _; (repeat wtm_at "sy"); rfl))))
local macro_rules | `(tactic| wtm_at "syLoop") => `(tactic| refine lp_nil ?_)
local macro_rules | `(tactic| wtm_at "syLoop") => `(tactic| ((refine' lpc ?hE ?hz ?hl ?_); (case hE => assumption); (case hz => assumption); (case hl => assumption); intro _ _ _ _ _))
local macro_rules | `(tactic| wtm_at "syBO") => `(tactic| with_reducible exact bo_451_Mult _)
local macro_rules | `(tactic| wtm_at "syBO") => `(tactic| with_reducible exact bo_451_Add _)
local macro_rules | `(tactic| wtm_at "syBO") => `(tactic| with_reducible exact bo_422_Mult _)
local macro_rules | `(tactic| wtm_at "syBO") => `(tactic| with_reducible exact bo_422_Add _)
local macro_rules | `(tactic| wtm_at "syBO") => `(tactic| with_reducible exact bo_297_Mult _)
local macro_rules | `(tactic| wtm_at "syBI") => `(tactic| with_reducible exact bi_451_Pow _)
local macro_rules | `(tactic| wtm_at "syBI") => `(tactic| with_reducible exact bi_451_Div _)
local macro_rules | `(tactic| wtm_at "syBI") => `(tactic| with_reducible exact bi_422_Pow _)
local macro_rules | `(tactic| wtm_at "syBI") => `(tactic| with_reducible exact bi_422_Div _)
local macro_rules | `(tactic| wtm_at "syBI") => `(tactic| with_reducible exact bi_297_Pow _)
local macro_rules | `(tactic| wtm_at "syBI") => `(tactic| with_reducible exact bi_297_Div _)
local macro_rules | `(tactic| wtm_at "syCw") => `(tactic| (with_reducible refine cw_B0 ?_))
local macro_rules | `(tactic| wtm_at "syCw") => `(tactic| ((with_reducible refine' cwTn ?he ?hp ?_); (case he => rfl); (case hp => rfl)))
local macro_rules | `(tactic| wtm_at "syCw") => `(tactic| ((with_reducible refine' cwBn ?he ?hp ?_); (case he => rfl); (case hp => rfl)))
local macro_rules | `(tactic| wtm_at "syCw") => `(tactic| ((with_reducible refine' cwX0 ?hK ?O ?hk ?_); (case hK => assumption); (case O => assumption); (case hk => wtm_at "syK")))
local macro_rules | `(tactic| wtm_at "syCw") => `(tactic| ((with_reducible refine' cwX1 ?hK ?O ?hk ?he ?hp ?_); (case hK => assumption); (case O => assumption); (case hk => wtm_at "syK"); (case he => rfl); (case hp => rfl)))
local macro_rules | `(tactic| wtm_at "syCw") => `(tactic| ((with_reducible refine' cwXn ?hK ?O ?hk ?he ?hp ?_); (case hK => assumption); (case O => assumption); (case hk => wtm_at "syK"); (case he => rfl); (case hp => rfl)))
local macro_rules | `(tactic| wtm_at "syEvs") => `(tactic| (with_reducible refine evs_nil ?_))
local macro_rules | `(tactic| wtm_at "syEvs") => `(tactic| ((with_reducible refine' evs_cons ?he ?_); (case he => rfl)))
local macro_rules | `(tactic| wtm_at "sySt") => `(tactic| ((with_reducible refine' st_asgSub ?hx ?_); (case hx => (intro _ _ _ _ _ h; exact wpAny_Assign_Subscript h))))
local macro_rules | `(tactic| wtm_at "sySt") => `(tactic| ((with_reducible refine' st_asgSw ?O ?hs ?hw ?_); (case O => assumption); (case hs => rfl); (case hw => (simp only [*]; rfl))))
local macro_rules | `(tactic| wtm_at "sySt") => `(tactic| ((with_reducible refine' st_asgT ?he ?hf ?_); (case he => rfl); (case hf => first | rfl | (simp only [*]; rfl))))
local macro_rules | `(tactic| wtm_at "sySt") => `(tactic| (with_reducible refine st_while ?_))
local macro_rules | `(tactic| wtm_at "sySt") => `(tactic| ((with_reducible refine' st_augSub ?he ?_); (case he => (intro _ _ _; rfl))))
local macro_rules | `(tactic| wtm_at "sySt") => `(tactic| (with_reducible refine st_aug ?_))
local macro_rules | `(tactic| wtm_at "sySt") => `(tactic| ((with_reducible refine' st_asg ?he ?_); (case he => rfl)))
local macro_rules | `(tactic| wtm_at "sySt") => `(tactic| ((with_reducible refine' st_for ?O ?hfz ?hel ?hs ?_); (case O => assumption); (case hfz => assumption); (case hel => assumption); (case hs => (intro _; rfl))))
local macro_rules | `(tactic| wtm_at "sySt") => `(tactic| ((with_reducible refine' st_comp ?O ?hfz ?hel ?hsw ?hclos ?hcell ?hk ?hnames ?hs ?hE ?hy ?hyc ?_); (case O => assumption); (case hfz => assumption); (case hel => assumption); (case hE => assumption); (case hsw => simp only [*]; rfl); (case hclos => simp only [*]; rfl); (case hcell => decide); (case hk => rfl); (case hnames => decide); (case hs => (intro _; rfl)); (case hy => rfl); (case hyc => rfl)))
local macro_rules | `(tactic| wtm_at "sySt") => `(tactic| with_reducible refine st_if ?_)
local macro_rules | `(tactic| wtm_at "sySt") => `(tactic| with_reducible refine st_ret ?_)
local macro_rules | `(tactic| wtm_at "syCall") => `(tactic| (wtm_at "syDef"))
local macro_rules | `(tactic| wtm_at "syCall") => `(tactic| (wtm_at "syCt"))
local macro_rules | `(tactic| wtm_at "syCall") => `(tactic| ((with_reducible refine' call_pow3S ?hb ?hm ?_); (case hb => omega); (case hm => omega)))
local macro_rules | `(tactic| wtm_at "syCall") => `(tactic| ((with_reducible refine' call_max2 ?O ?_); (case O => assumption)))
local macro_rules | `(tactic| wtm_at "syCall") => `(tactic| ((with_reducible refine' call_pl_tt ?hK ?hT ?hD ?O ?hn ?hfz ?hfr ?hq ?hq2 ?c0 ?c1 ?_); (case hK => assumption); (case hT => assumption); (case hD => assumption); (case O => assumption); (case hn => first | exact Nat.le_of_ble_eq_true rfl | omega); (case hfz => assumption); (case hfr => assumption); (case hq => assumption); (case hq2 => assumption); (case c0 => wtm_at "syCo"); (case c1 => wtm_at "syCo")))
local macro_rules | `(tactic| wtm_at "syCall") => `(tactic| ((with_reducible refine' call_pl_lt ?hK ?hT ?hD ?O ?hn ?hfz ?hfr ?hq ?hq2 ?h1 ?c0 ?c1 ?_); (case hK => assumption); (case hT => assumption); (case hD => assumption); (case O => assumption); (case hn => first | exact Nat.le_of_ble_eq_true rfl | omega); (case hfz => assumption); (case hfr => assumption); (case hq => assumption); (case hq2 => assumption); (case h1 => wtm_at "syHK"); (case c0 => wtm_at "syCo"); (case c1 => wtm_at "syCo")))
local macro_rules | `(tactic| wtm_at "syCall") => `(tactic| ((with_reducible refine' call_tuple_l ?hk ?hz ?_); (case hk => wtm_at "syHK"); (case hz => rfl)))
local macro_rules | `(tactic| wtm_at "syCall") => `(tactic| ((with_reducible refine' call_list_t ?hfz ?hz ?_); (case hfz => assumption); (case hz => rfl)))
local macro_rules | `(tactic| wtm_at "syCall") => `(tactic| ((with_reducible refine' call_list_l ?hfz ?hk ?hz ?_); (case hfz => assumption); (case hk => wtm_at "syHK"); (case hz => rfl)))
local macro_rules | `(tactic| wtm_at "syCall") => `(tactic| ((with_reducible refine' call_pop ?hfz ?hk ?hl ?hw ?hz ?_); (case hfz => assumption); (case hk => wtm_at "syHK"); (case hl => rfl); (case hw => rfl); (case hz => rfl)))
local macro_rules | `(tactic| wtm_at "syCall") => `(tactic| ((with_reducible refine' call_rng3 ?hd ?hs ?_); (case hd => rfl); (case hs => rfl)))
local macro_rules | `(tactic| wtm_at "syCall") => `(tactic| (with_reducible refine' call_rng1 ?_))
local macro_rules | `(tactic| wtm_at "syCall") => `(tactic| ((with_reducible refine' call_rng1N ?hb ?_); (case hb => wtm_at "syInt")))
local macro_rules | `(tactic| wtm_at "syCall") => `(tactic| ((with_reducible refine' call_rng3N ?ha ?hb ?hd2 ?hd ?hs ?_); (case ha => wtm_at "syInt"); (case hb => wtm_at "syInt"); (case hd2 => wtm_at "syInt"); (case hd => rfl); (case hs => rfl)))
local macro_rules | `(tactic| wtm_at "syCall") => `(tactic| ((with_reducible refine' isiOT ?hK ?O ?X ?ho ?e ?_); (case hK => assumption); (case O => assumption); (case X => wtm_at "syO"); (case ho => rfl); (case e => wtm_at "syIA")))
local macro_rules | `(tactic| wtm_at "syCall") => `(tactic| ((with_reducible refine' isiIT ?hK ?O ?ho ?e ?_); (case hK => assumption); (case O => assumption); (case ho => rfl); (case e => wtm_at "syIA")))
local macro_rules | `(tactic| wtm_at "syCall") => `(tactic| ((with_reducible refine' isiOI ?hK ?O ?X ?e ?_); (case hK => assumption); (case O => assumption); (case X => wtm_at "syO"); (case e => wtm_at "syI")))
local macro_rules | `(tactic| wtm_at "syCall") => `(tactic| ((with_reducible refine' isiII ?hK ?O ?e ?_); (case hK => assumption); (case O => assumption); (case e => wtm_at "syI")))
local macro_rules | `(tactic| wtm_at "syCall") => `(tactic| ((with_reducible refine' call_pfi ?hK ?O ?hn ?hq ?hq2 ?b0 ?b1 ?_); (case hK => assumption); (case O => assumption); (case hn => first | exact Nat.le_of_ble_eq_true rfl | omega); (case hq => assumption); (case hq2 => assumption); (case b0 => wtm_at "syB0"); (case b1 => wtm_at "syB0")))
local macro_rules | `(tactic| wtm_at "syCall") => `(tactic| ((with_reducible refine' call_fq_new ?hK ?O ?hn ?hq ?hq2 ?b0 ?b1 ?_); (case hK => assumption); (case O => assumption); (case hn => first | exact Nat.le_of_ble_eq_true rfl | omega); (case hq => assumption); (case hq2 => assumption); (case b0 => wtm_at "syB0"); (case b1 => wtm_at "syB0")))
local macro_rules | `(tactic| wtm_at "syCall") => `(tactic| ((with_reducible refine' call_int_fq ?hK ?O ?hn ?a0 ?a1 ?_); (case hK => assumption); (case O => assumption); (case hn => first | exact Nat.le_of_ble_eq_true rfl | omega); (case a0 => wtm_at "syB0"); (case a1 => wtm_at "syB0")))
local macro_rules | `(tactic| wtm_at "syCall") => `(tactic| (with_reducible refine' call_int_i ?_))
local macro_rules | `(tactic| wtm_at "syCall") => `(tactic| ((with_reducible refine' call_len_list ?hv ?hz ?_); (case hv => wtm_at "syHK"); (case hz => first | exact Nat.le_of_ble_eq_true rfl | omega)))
local macro_rules | `(tactic| wtm_at "syCall") => `(tactic| ((with_reducible refine' call_len_old ?O ?hz ?_); (case O => assumption); (case hz => assumption)))
local macro_rules | `(tactic| wtm_at "syBin") => `(tactic| ((with_reducible refine' bin_instI ?hK ?O ?X ?_); (case hK => assumption); (case O => assumption); (case X => wtm_at "syBI")))
local macro_rules | `(tactic| wtm_at "syBin") => `(tactic| ((with_reducible refine' bin_inst ?hK ?O ?X ?_); (case hK => assumption); (case O => assumption); (case X => wtm_at "syBO")))
local macro_rules | `(tactic| wtm_at "syBin") => `(tactic| ((with_reducible refine' bin_fdiv ?O ?hb ?hr ?_); (case O => assumption); (case hb => wtm_at "syNe"); (case hr => first | decide | omega)))
local macro_rules | `(tactic| wtm_at "syBin") => `(tactic| (with_reducible refine' bin_band ?_))
local macro_rules | `(tactic| wtm_at "syBin") => `(tactic| ((with_reducible refine' bin_lists ?hfz ?hk ?hj ?hz ?_); (case hfz => assumption); (case hk => wtm_at "syHK"); (case hj => wtm_at "syHK"); (case hz => rfl)))
local macro_rules | `(tactic| wtm_at "syBin") => `(tactic| ((with_reducible refine' bin_mulL ?hfz ?hk ?h0 ?h1 ?_); (case hfz => assumption); (case hk => wtm_at "syHK"); (case h0 => rfl); (case h1 => rfl)))
local macro_rules | `(tactic| wtm_at "syBin") => `(tactic| ((with_reducible refine' bin_tups ?hz ?_); (case hz => rfl)))
local macro_rules | `(tactic| wtm_at "syBin") => `(tactic| ((with_reducible refine' bin_mod ?hb ?_); (case hb => wtm_at "syNe")))
local macro_rules | `(tactic| wtm_at "syBin") => `(tactic| ((with_reducible refine' bin_mul ?hm ?_); (case hm => wtm_at "syMul")))
local macro_rules | `(tactic| wtm_at "syBin") => `(tactic| (with_reducible refine' bin_sub ?_))
local macro_rules | `(tactic| wtm_at "syBin") => `(tactic| (with_reducible refine' bin_add ?_))
local macro_rules | `(tactic| wtm_at "syHK") => `(tactic| (apply lkL; wtm_at "syHK"))
local macro_rules | `(tactic| wtm_at "syHK") => `(tactic| exact lkE (by rfl))
local macro_rules | `(tactic| wtm_at "syHK") => `(tactic| assumption)
local macro_rules | `(tactic| wtm_at "syHK") => `(tactic| rfl)
local macro_rules | `(tactic| wtm_at "syName") => `(tactic| ((with_reducible refine' evB ?hK ?O ?hE ?hk ?hd ?e ?hv ?hn ?_); (case hK => assumption); (case O => assumption); (case hE => assumption); (case hk => rfl); (case hd => decide); (case e => wtm_at "syB"); (case hv => wtm_at "syBB"); (case hn => decide)))
local macro_rules | `(tactic| wtm_at "syName") => `(tactic| ((with_reducible refine' evG ?hK ?O ?hE ?hk ?hd ?e ?_); (case hK => assumption); (case O => assumption); (case hE => assumption); (case hk => rfl); (case hd => decide); (case e => wtm_at "syG")))
local macro_rules | `(tactic| wtm_at "syName") => `(tactic| ((with_reducible refine' ev_cel ?O ?hE ?hk ?hc ?hv ?hd ?_); (case O => assumption); (case hE => assumption); (case hk => rfl); (case hc => rfl); (case hv => wtm_at "syHK"); (case hd => decide)))
local macro_rules | `(tactic| wtm_at "syName") => `(tactic| ((with_reducible refine' ev_loc ?O ?hE ?hk ?hc ?hv ?hd ?_); (case O => assumption); (case hE => assumption); (case hk => rfl); (case hc => rfl); (case hv => wtm_at "syHK"); (case hd => decide)))
local macro_rules | `(tactic| wtm_at "syEv") => `(tactic| with_reducible refine ev_and ?_)
local macro_rules | `(tactic| wtm_at "syEv") => `(tactic| with_reducible refine ev_if ?_)
local macro_rules | `(tactic| wtm_at "syEv") => `(tactic| with_reducible refine ev_bool ?_)
local macro_rules | `(tactic| wtm_at "syEv") => `(tactic| with_reducible refine ev_un ?_)
local macro_rules | `(tactic| wtm_at "syEv") => `(tactic| ((with_reducible refine' ev_list ?O ?hf ?_); (case O => assumption); (case hf => assumption)))
local macro_rules | `(tactic| wtm_at "syEv") => `(tactic| (with_reducible refine ev_tuple ?_))
local macro_rules | `(tactic| wtm_at "syEv") => `(tactic| ((with_reducible refine' ev_cmp ?he ?_); (case he => rfl)))
local macro_rules | `(tactic| wtm_at "syEv") => `(tactic| (with_reducible refine ev_sub ?_))
local macro_rules | `(tactic| wtm_at "syEv") => `(tactic| (with_reducible refine ev_slc ?_))
local macro_rules | `(tactic| wtm_at "syEv") => `(tactic| ((with_reducible refine' ev_attr ?he ?_); (case he => rfl)))
local macro_rules | `(tactic| wtm_at "syEv") => `(tactic| ((with_reducible refine' ev_call ?he ?_); (case he => rfl)))
local macro_rules | `(tactic| wtm_at "syEv") => `(tactic| ((with_reducible refine' ev_meth ?he ?_); (case he => rfl)))
local macro_rules | `(tactic| wtm_at "syEv") => `(tactic| with_reducible refine ev_bin ?_)
local macro_rules | `(tactic| wtm_at "syEv") => `(tactic| ((with_reducible refine' ev_comp ?O ?hfz ?hel ?hclos ?hcell ?hk ?hnames ?hs ?_); (case O => assumption); (case hfz => assumption); (case hel => assumption); (case hclos => first | rfl | (simp only [*]; rfl)); (case hcell => decide); (case hk => rfl); (case hnames => decide); (case hs => (intro _; rfl))))
local macro_rules | `(tactic| wtm_at "syEv") => `(tactic| with_reducible refine ev_int ?_)
local macro_rules | `(tactic| wtm_at "syEv") => `(tactic| ((with_reducible show EvS _ _ _ (Expr.Name _ _) _ _); wtm_at "syCName"))
local macro_rules | `(tactic| wtm_at "syEv") => `(tactic| ((with_reducible show EvS _ _ (Cx.fenv _) (Expr.Name _ _) _ _); wtm_at "syName"))
local macro_rules | `(tactic| wtm_at "sy") => `(tactic| ((with_reducible show @ite _ _ _ _ _); first | (refine ite_pos (by rfl) ?_) | (refine ite_neg (by exact Bool.false_ne_true) ?_) | (refine ite_neg (by decide) ?_)))
local macro_rules | `(tactic| wtm_at "sy") => `(tactic| ((with_reducible show _ ≤ 1000 ∧ _); refine ⟨Nat.le_of_ble_eq_true rfl, ?_⟩))
local macro_rules | `(tactic| wtm_at "sy") => `(tactic| ((with_reducible show ∃ vs, _ = V.tup vs ∧ _); (refine ⟨_, rfl, rfl, ?_⟩)))
local macro_rules | `(tactic| wtm_at "sy") => `(tactic| ((with_reducible show TgOk _ _ _ ∧ _); (refine And.intro ?_ (And.intro ?_ ?_); (wtm_at "syTg"); (exact Nat.le_of_ble_eq_true rfl))))
local macro_rules | `(tactic| wtm_at "sy") => `(tactic| ((with_reducible show ∃ id : String, _ = V.old (Value.type id) ∧ _); (refine ⟨_, rfl, ?_⟩)))
local macro_rules | `(tactic| wtm_at "sy") => `(tactic| ((with_reducible show notOld _ = true ∧ _); refine And.intro rfl ?_))
local macro_rules | `(tactic| wtm_at "sy") => `(tactic| ((with_reducible show CallI _ _ _ _ _ _ _ _); first | ((with_reducible refine' zI_tup ?O ?hlen ?_); (case O => assumption); (case hlen => rfl)) | ((with_reducible refine' zI_tupF ?O ?hlen ?_); (case O => assumption); (case hlen => rfl)) | ((with_reducible refine' enI_tup ?O ?_); (case O => assumption))))
local macro_rules | `(tactic| wtm_at "sy") => `(tactic| ((with_reducible show UnS _ _ _ _ _ _); with_reducible refine un_neg ?_))
local macro_rules | `(tactic| wtm_at "sy") => `(tactic| (with_reducible refine lp_ret ?_))
local macro_rules | `(tactic| wtm_at "sy") => `(tactic| ((with_reducible show SlcS _ _ _ _ _ _ _ _); ((with_reducible refine' slc_lst ?hfz ?hs ?ht ?hk ?h0 ?h1 ?hz ?_); (case hfz => assumption); (case hs => (intro _ _; rfl)); (case ht => (intro _ _; rfl)); (case hk => wtm_at "syHK"); (case h0 => rfl); (case h1 => rfl); (case hz => rfl))))
local macro_rules | `(tactic| wtm_at "sy") => `(tactic| ((with_reducible show MthS _ _ _ _ _ _); wtm_at "syMth"))
local macro_rules | `(tactic| wtm_at "sy") => `(tactic| (with_reducible refine wh_next ?_))
local macro_rules | `(tactic| wtm_at "sy") => `(tactic| ((with_reducible show LdS _ _ _ _ _); ((with_reducible refine' ld_loc ?O ?hE ?hk ?hc ?hv ?_); (case O => assumption); (case hE => assumption); (case hk => rfl); (case hc => rfl); (case hv => wtm_at "syHK"))))
local macro_rules | `(tactic| wtm_at "sy") => `(tactic| (with_reducible refine fn_ret ?_))
local macro_rules | `(tactic| wtm_at "sy") => `(tactic| (with_reducible refine seq_ret ?_))
local macro_rules | `(tactic| wtm_at "sy") => `(tactic| ((with_reducible show AllA _ _ _ _ _ _); first | with_reducible refine alla_cons ?_ | with_reducible refine alla_nil ?_))
local macro_rules | `(tactic| wtm_at "sy") => `(tactic| ((with_reducible show drK _ _ _ _); first | ((with_reducible refine' dr_v ?hv ?hg ?_); (case hv => rfl); (case hg => rfl)) | ((with_reducible refine' dr_l ?hk ?hg ?hs ?hv ?_); (case hk => rfl); (case hg => rfl); (case hs => wtm_at "syHK"); (case hv => first | rfl | assumption))))
local macro_rules | `(tactic| wtm_at "sy") => `(tactic| ((with_reducible show CmpS _ _ _ _ _ _ _); wtm_at "syCmp"))
local macro_rules | `(tactic| wtm_at "sy") => `(tactic| ((with_reducible show AllN _ _ _ _ _ _); first | refine alln_cons ?_ | refine alln_nil ?_))
local macro_rules | `(tactic| wtm_at "sy") => `(tactic| ((with_reducible show WhS _ _ _ _ _ _); (with_reducible refine wh_turn ?_)))
local macro_rules | `(tactic| wtm_at "sy") => `(tactic| ((with_reducible show SrcS _ _ _ _ _ _ _); wtm_at "sySrc"))
local macro_rules | `(tactic| wtm_at "sy") => `(tactic| ((with_reducible show IteS _ _ _ _ _ _ _ _); (with_reducible refine iteX ?_)))
local macro_rules | `(tactic| wtm_at "sy") => `(tactic| ((first | (with_reducible show IteS _ _ _ _ (Expr.Call (Expr.Name (Str.ofString "zip") _) _ _ _) _ _ _) | (with_reducible show IteS _ _ _ _ (Expr.Call (Expr.Name (Str.ofString "enumerate") _) _ _ _) _ _ _)); (with_reducible refine' ite_call ?he ?he2 ?hp ?_); (case he => rfl); (case he2 => rfl); (case hp => rfl)))
local macro_rules | `(tactic| wtm_at "sy") => `(tactic| (with_reducible refine lp_next ?_))
local macro_rules | `(tactic| wtm_at "sy") => `(tactic| ((with_reducible show AsgI _ _ _ _ _ _); first | with_reducible refine asgi_val ?_ | ((with_reducible refine' asgi_pair ?O ?he ?hl ?hs ?_); (case O => assumption); (case he => rfl); (case hl => rfl); (case hs => rfl))))
local macro_rules | `(tactic| wtm_at "sy") => `(tactic| ((with_reducible show SetS _ _ _ _ _ _ _); (with_reducible refine' set_lst ?hf ?hk ?h0 ?h1 ?hn ?_); (case hf => assumption); (case hk => wtm_at "syHK"); (case h0 => rfl); (case h1 => rfl); (case hn => rfl)))
local macro_rules | `(tactic| wtm_at "sy") => `(tactic| ((with_reducible show GetS _ _ _ _ _ _); (with_reducible refine' get_lst ?hk ?h0 ?h1 ?hv ?_); (case hk => wtm_at "syHK"); (case h0 => rfl); (case h1 => rfl); (case hv => rfl)))
local macro_rules | `(tactic| wtm_at "sy") => `(tactic| ((with_reducible show TruS _ _ _ _ _); first | with_reducible refine tr_int ?_ | with_reducible refine tr_bool ?_))
local macro_rules | `(tactic| wtm_at "sy") => `(tactic| ((with_reducible show LoopS _ _ _ _ _ _ _ _); wtm_at "syLoop"))
local macro_rules | `(tactic| wtm_at "sy") => `(tactic| ((with_reducible show SetK _ _ _ _); ((with_reducible refine' set_E ?hls ?hk ?_); (case hls => rfl); (case hk => rfl))))
local macro_rules | `(tactic| wtm_at "sy") => `(tactic| ((with_reducible show AllTS _ _ _ _ _ _ _); first | with_reducible refine at_and ?_ | with_reducible refine at_and_nil ?_ | with_reducible refine at_or ?_ | with_reducible refine at_or_nil ?_))
local macro_rules | `(tactic| wtm_at "sy") => `(tactic| ((with_reducible show AsgS _ _ _ _ _ _); first | with_reducible refine asg_name ?_ | ((with_reducible refine' asg_tuple ?O ?he ?hl ?hs ?_); (case O => assumption); (case he => rfl); (case hl => rfl); (case hs => rfl)) | ((with_reducible refine' asg_lst ?O ?hj ?he ?hl ?hs ?_); (case O => assumption); (case hj => wtm_at "syHK"); (case he => rfl); (case hl => rfl); (case hs => rfl))))
local macro_rules | `(tactic| wtm_at "sy") => `(tactic| ((with_reducible show CompS _ _ _ _ _ _ _ _ _ _); wtm_at "syComp"))
local macro_rules | `(tactic| wtm_at "sy") => `(tactic| ((with_reducible show InpS _ _ _ _ _ _ _); wtm_at "syInp"))
local macro_rules | `(tactic| wtm_at "sy") => `(tactic| ((with_reducible show TestS _ _ _ _ _ _); first | ((with_reducible refine' ts_cmp ?he ?_); (case he => rfl)) | with_reducible refine ts_bool ?_ | with_reducible refine ts_not ?_ | ((with_reducible refine' ts_val ?_ ?he); (case he => (intro _; rfl)))))
local macro_rules | `(tactic| wtm_at "sy") => `(tactic| ((with_reducible show AttS _ _ _ _ _ _); wtm_at "syAtt"))
local macro_rules | `(tactic| wtm_at "sy") => `(tactic| ((with_reducible show NewK _ _ _); first | ((with_reducible refine' new_E ?hls ?_); (case hls => rfl)) | (show _ ; unfold NewK)))
local macro_rules | `(tactic| wtm_at "sy") => `(tactic| ((with_reducible show StoS _ _ _ _ _ _); first | ((with_reducible refine' sto_loc ?O ?hel ?hE ?hk ?hc ?_); (case O => assumption); (case hel => assumption); (case hE => assumption); (case hk => rfl); (case hc => rfl)) | ((with_reducible refine' sto_cel ?O ?hfz ?hE ?hk ?hc ?_); (case O => assumption); (case hfz => assumption); (case hE => assumption); (case hk => rfl); (case hc => rfl))))
local macro_rules | `(tactic| wtm_at "sy") => `(tactic| ((with_reducible show CwS _ _ _ _ _ _ _ _ _); wtm_at "syCw"))
local macro_rules | `(tactic| wtm_at "sy") => `(tactic| ((with_reducible show CallS _ _ _ _ _ _); wtm_at "syCall"))
local macro_rules | `(tactic| wtm_at "sy") => `(tactic| ((with_reducible show SubT _ _ _ _ _ _ _ _); wtm_at "sySub"))
local macro_rules | `(tactic| wtm_at "sy") => `(tactic| (with_reducible refine seq_next ?_))
local macro_rules | `(tactic| wtm_at "sy") => `(tactic| ((with_reducible show StS _ _ _ _ _); wtm_at "sySt"))
local macro_rules | `(tactic| wtm_at "sy") => `(tactic| ((with_reducible show BinS _ _ _ _ _ _ _); wtm_at "syBin"))
local macro_rules | `(tactic| wtm_at "sy") => `(tactic| ((with_reducible show BlS _ _ _ _ _); first | ((with_reducible refine' bl_consN ?e ?_); (case e => wtm_at "syNorm")) | with_reducible refine bl_nil ?_))
local macro_rules | `(tactic| wtm_at "sy") => `(tactic| ((with_reducible show EvsS _ _ _ _ _ _ _); wtm_at "syEvs"))
local macro_rules | `(tactic| wtm_at "sy") => `(tactic| ((with_reducible show EvS _ _ _ _ _ _); wtm_at "syEv"))

section
local macro_rules | `(tactic| wtm_at "syB0") => `(tactic| assumption)
local macro_rules | `(tactic| wtm_at "syB0") => `(tactic| omega)
local macro_rules | `(tactic| wtm_at "syB0") => `(tactic| (exact fm_hi _ (by with_reducible assumption)))
local macro_rules | `(tactic| wtm_at "syB0") => `(tactic| (exact fm_lo _ (by with_reducible assumption)))
local macro_rules | `(tactic| wtm_at "syB0") => `(tactic| with_reducible assumption)

section
variable {S : Sx} {c : Cx} {env : Env} {σ : St} {n : Nat} {W : Wd} {m : Str → Option Value} {s : Shared}
variable (hK : S.K = hd.heap_39 S.w.params)
include hK
theorem c_fq_mul (O : Ok S c n) (hn : 50 ≤ n) {q a b : Int} {P : V → St → Prop} (hq : 0 < q) (hq2 : q < 1000) (a0 : 0 ≤ a) (a1 : a < q) (b0 : 0 ≤ b) (b1 : b < q) (h : P (fqV q (Int.fmod (a * b) q)) σ) :
   CallS S c (.old (.ref 220)) [fqV q a, fqV q b] σ P := by
  have O := O.mono hn
  have qne : q ≠ 0 := by omega
  have l0 := fm_lo (a * b) hq
  have l1 := fm_hi (a * b) hq
  wtm_at "syF9220"
  repeat wtm_at "sy"
  rw [fmfm]; exact h
theorem c_fq_muli (O : Ok S c n) (hn : 50 ≤ n) {q a b : Int} {P : V → St → Prop} (hq : 0 < q) (hq2 : q < 1000) (a0 : 0 ≤ a) (a1 : a < q) (b0 : -1000000 < b) (b1 : b < 1000000) (h : P (fqV q (Int.fmod (a * b) q)) σ) :
   CallS S c (.old (.ref 220)) [fqV q a, .int b] σ P := by
  have O := O.mono hn
  have qne : q ≠ 0 := by omega
  have l0 := fm_lo (a * b) hq
  have l1 := fm_hi (a * b) hq
  wtm_at "syF9220"
  repeat wtm_at "sy"
  rw [fmfm]; exact h
theorem c_fq_add (O : Ok S c n) (hn : 50 ≤ n) {q a b : Int} {P : V → St → Prop} (hq : 0 < q) (hq2 : q < 1000) (a0 : 0 ≤ a) (a1 : a < q) (b0 : 0 ≤ b) (b1 : b < q) (h : P (fqV q (Int.fmod (a + b) q)) σ) :
   CallS S c (.old (.ref 213)) [fqV q a, fqV q b] σ P := by
  have O := O.mono hn
  have qne : q ≠ 0 := by omega
  have l0 := fm_lo (a + b) hq
  have l1 := fm_hi (a + b) hq
  wtm_at "syF9213"
  repeat wtm_at "sy"
  rw [fmfm]; exact h
theorem c_fq_sub (O : Ok S c n) (hn : 50 ≤ n) {q a b : Int} {P : V → St → Prop} (hq : 0 < q) (hq2 : q < 1000) (a0 : 0 ≤ a) (a1 : a < q) (b0 : 0 ≤ b) (b1 : b < q) (h : P (fqV q (Int.fmod (a - b) q)) σ) :
   CallS S c (.old (.ref 248)) [fqV q a, fqV q b] σ P := by
  have O := O.mono hn
  have qne : q ≠ 0 := by omega
  have l0 := fm_lo (a - b) hq
  have l1 := fm_hi (a - b) hq
  wtm_at "syF9248"
  repeat wtm_at "sy"
  rw [fmfm]; exact h
theorem c_fq_isub (O : Ok S c n) (hn : 50 ≤ n) {q a b : Int} {P : V → St → Prop} (hq : 0 < q) (hq2 : q < 1000) (a0 : 0 ≤ a) (a1 : a < q) (b0 : -1000000 < b) (b1 : b < 1000000) (h : P (fqV q (Int.fmod (a - b) q)) σ) :
   CallS S c (.old (.ref 248)) [fqV q a, .int b] σ P := by
  have O := O.mono hn
  have qne : q ≠ 0 := by omega
  have l0 := fm_lo (a - b) hq
  have l1 := fm_hi (a - b) hq
  wtm_at "syF9248"
  repeat wtm_at "sy"
  rw [fmfm]; exact h
theorem c_fq_rsub (O : Ok S c n) (hn : 50 ≤ n) {q a b : Int} {P : V → St → Prop} (hq : 0 < q) (hq2 : q < 1000) (a0 : 0 ≤ a) (a1 : a < q) (b0 : -1000000 < b) (b1 : b < 1000000) (h : P (fqV q (Int.fmod (b - a) q)) σ) :
   CallS S c (.old (.ref 241)) [fqV q a, .int b] σ P := by
  have O := O.mono hn
  have qne : q ≠ 0 := by omega
  have l0 := fm_lo (b - a) hq
  have l1 := fm_hi (b - a) hq
  wtm_at "syF9241"
  repeat wtm_at "sy"
  rw [fmfm]; exact h
theorem c_fq_div (O : Ok S c n) (hn : 50 ≤ n) {q a b : Int} {P : V → St → Prop} (hq : 0 < q) (hq2 : q < 1000) (a0 : 0 ≤ a) (a1 : a < q) (b0 : 0 ≤ b) (b1 : b < q) (h : P (fqV q (Int.fmod (a * pfi b q) q)) σ) :
   CallS S c (.old (.ref 255)) [fqV q a, fqV q b] σ P := by
  have O := O.mono hn
  have qne : q ≠ 0 := by omega
  have l0 := fm_lo (a * pfi b q) hq
  have l1 := fm_hi (a * pfi b q) hq
  have z0 := (pfi_rng hq b).1
  have z1 := (pfi_rng hq b).2
  wtm_at "syF9255"
  repeat wtm_at "sy"
  rw [fmfm]; exact h
theorem c_fq_divi (O : Ok S c n) (hn : 50 ≤ n) {q a b : Int} {P : V → St → Prop} (hq : 0 < q) (hq2 : q < 1000) (a0 : 0 ≤ a) (a1 : a < q) (b0 : -1000000 < b) (b1 : b < 1000000) (h : P (fqV q (Int.fmod (a * pfi b q) q)) σ) :
   CallS S c (.old (.ref 255)) [fqV q a, .int b] σ P := by
  have O := O.mono hn
  have qne : q ≠ 0 := by omega
  have l0 := fm_lo (a * pfi b q) hq
  have l1 := fm_hi (a * pfi b q) hq
  have z0 := (pfi_rng hq b).1
  have z1 := (pfi_rng hq b).2
  wtm_at "syF9255"
  repeat wtm_at "sy"
  rw [fmfm]; exact h
theorem c_fq_rdiv (O : Ok S c n) (hn : 50 ≤ n) {q a b : Int} {P : V → St → Prop} (hq : 0 < q) (hq2 : q < 1000) (a0 : 0 ≤ a) (a1 : a < q) (b0 : -1000000 < b) (b1 : b < 1000000) (h : P (fqV q (Int.fmod (pfi a q * b) q)) σ) :
   CallS S c (.old (.ref 262)) [fqV q a, .int b] σ P := by
  have O := O.mono hn
  have qne : q ≠ 0 := by omega
  have l0 := fm_lo (pfi a q * b) hq
  have l1 := fm_hi (pfi a q * b) hq
  have z0 := (pfi_rng hq a).1
  have z1 := (pfi_rng hq a).2
  wtm_at "syF9262"
  repeat wtm_at "sy"
  rw [fmfm]; exact h
theorem bin_fq_mul (O : Ok S c n) (hn : 50 ≤ n) {q a b : Int} {P : V → St → Prop} (hq : 0 < q) (hq2 : q < 1000) (a0 : 0 ≤ a) (a1 : a < q) (b0 : 0 ≤ b) (b1 : b < q) (h : P (fqV q (Int.fmod (a * b) q)) σ) : BinS S c .Mult (fqV q a) (fqV q b) σ P := fun W x y hx hy m s Q r k => by
  obtain ⟨xa, dx, odx, rfl, Ix⟩ := hx.fqI r
  obtain ⟨ya, dy, ody, rfl, Iy⟩ := hy.fqI r
  have X := hK ▸ O.X
  refine bin_of (op := .Mult) (bin1_same (X.keeps r.F.keep) Ix Iy (by k_is) (by k_is) (by k_is) ?_)
  exact c_fq_mul hK O hn hq hq2 a0 a1 b0 b1 (P := fun v σ' => notOld v = true ∧ P v σ') ⟨rfl, h⟩ W _ _ .old (.cons hx (.cons hy .nil)) m s _ r fun v b σ' W' m' s' p r' g' e' => cmpBack e' p.1 (k v b σ' W' m' s' p.2 r' g' e')
theorem inp_fq_add (O : Ok S c n) (hn : 50 ≤ n) {q a b : Int} {P : V → St → Prop} (hq : 0 < q) (hq2 : q < 1000) (a0 : 0 ≤ a) (a1 : a < q) (b0 : 0 ≤ b) (b1 : b < q) (h : P (fqV q (Int.fmod (a + b) q)) σ) : InpS S c .Add (fqV q a) (fqV q b) σ P := fun W x y hx hy m s Q r k => by
  obtain ⟨xa, dx, odx, rfl, Ix⟩ := hx.fqI r
  obtain ⟨ya, dy, ody, rfl, Iy⟩ := hy.fqI r
  have X := hK ▸ O.X
  refine inpl_RR (op := .Add) r.F X Ix Iy (by k_is) (by k_is) (by k_is) (by k_is) rfl (by k_is) (by k_is) ?_
  exact c_fq_add hK O hn hq hq2 a0 a1 b0 b1 (P := fun v σ' => notOld v = true ∧ P v σ') ⟨rfl, h⟩ W _ _ .old (.cons hx (.cons hy .nil)) m s _ r fun v b σ' W' m' s' p r' g' e' => cmpBack e' p.1 (k v b σ' W' m' s' p.2 r' g' e')
theorem inp_fq_sub (O : Ok S c n) (hn : 50 ≤ n) {q a b : Int} {P : V → St → Prop} (hq : 0 < q) (hq2 : q < 1000) (a0 : 0 ≤ a) (a1 : a < q) (b0 : 0 ≤ b) (b1 : b < q) (h : P (fqV q (Int.fmod (a - b) q)) σ) : InpS S c .Sub (fqV q a) (fqV q b) σ P := fun W x y hx hy m s Q r k => by
  obtain ⟨xa, dx, odx, rfl, Ix⟩ := hx.fqI r
  obtain ⟨ya, dy, ody, rfl, Iy⟩ := hy.fqI r
  have X := hK ▸ O.X
  refine inpl_RR (op := .Sub) r.F X Ix Iy (by k_is) (by k_is) (by k_is) (by k_is) rfl (by k_is) (by k_is) ?_
  exact c_fq_sub hK O hn hq hq2 a0 a1 b0 b1 (P := fun v σ' => notOld v = true ∧ P v σ') ⟨rfl, h⟩ W _ _ .old (.cons hx (.cons hy .nil)) m s _ r fun v b σ' W' m' s' p r' g' e' => cmpBack e' p.1 (k v b σ' W' m' s' p.2 r' g' e')
theorem bin_fq_div (O : Ok S c n) (hn : 50 ≤ n) {q a b : Int} {P : V → St → Prop} (hq : 0 < q) (hq2 : q < 1000) (a0 : 0 ≤ a) (a1 : a < q) (b0 : 0 ≤ b) (b1 : b < q) (h : P (fqV q (Int.fmod (a * pfi b q) q)) σ) : BinS S c .Div (fqV q a) (fqV q b) σ P := fun W x y hx hy m s Q r k => by
  obtain ⟨xa, dx, odx, rfl, Ix⟩ := hx.fqI r
  obtain ⟨ya, dy, ody, rfl, Iy⟩ := hy.fqI r
  have X := hK ▸ O.X
  refine bin_of (op := .Div) (bin1_same (X.keeps r.F.keep) Ix Iy (by k_is) (by k_is) (by k_is) ?_)
  exact c_fq_div hK O hn hq hq2 a0 a1 b0 b1 (P := fun v σ' => notOld v = true ∧ P v σ') ⟨rfl, h⟩ W _ _ .old (.cons hx (.cons hy .nil)) m s _ r fun v b σ' W' m' s' p r' g' e' => cmpBack e' p.1 (k v b σ' W' m' s' p.2 r' g' e')
theorem bin_fq_muli (O : Ok S c n) (hn : 50 ≤ n) {q a b : Int} {P : V → St → Prop} (hq : 0 < q) (hq2 : q < 1000) (a0 : 0 ≤ a) (a1 : a < q) (b0 : -1000000 < b) (b1 : b < 1000000) (h : P (fqV q (Int.fmod (a * b) q)) σ) : BinS S c .Mult (fqV q a) (.int b) σ P := fun W x y hx hy m s Q r k => by
  obtain ⟨xa, dx, odx, rfl, Ix⟩ := hx.fqI r
  cases hy
  have X := hK ▸ O.X
  refine bin_of (op := .Mult) (bin1_int (X.keeps r.F.keep) Ix (by k_is) (by k_is) (by k_is) (by k_is) (by first | exact .inl rfl | exact .inr ⟨_, rfl⟩) (by k_is) (by k_is) (by k_is) ?_)
  exact c_fq_muli hK O hn hq hq2 a0 a1 b0 b1 (P := fun v σ' => notOld v = true ∧ P v σ') ⟨rfl, h⟩ W _ _ .old (.cons hx (.cons .int .nil)) m s _ r fun v b σ' W' m' s' p r' g' e' => cmpBack e' p.1 (k v b σ' W' m' s' p.2 r' g' e')
theorem inp_fq_isub (O : Ok S c n) (hn : 50 ≤ n) {q a b : Int} {P : V → St → Prop} (hq : 0 < q) (hq2 : q < 1000) (a0 : 0 ≤ a) (a1 : a < q) (b0 : -1000000 < b) (b1 : b < 1000000) (h : P (fqV q (Int.fmod (a - b) q)) σ) : InpS S c .Sub (fqV q a) (.int b) σ P := fun W x y hx hy m s Q r k => by
  obtain ⟨xa, dx, odx, rfl, Ix⟩ := hx.fqI r
  cases hy
  have X := hK ▸ O.X
  refine inpl_RI (op := .Sub) r.F X Ix (by k_is) (by k_is) (by k_is) (by k_is) (by first | exact .inl rfl | exact .inr ⟨_, rfl⟩) (by k_is) (by k_is) (by k_is) (by k_is) rfl (by k_is) (by k_is) ?_
  exact c_fq_isub hK O hn hq hq2 a0 a1 b0 b1 (P := fun v σ' => notOld v = true ∧ P v σ') ⟨rfl, h⟩ W _ _ .old (.cons hx (.cons .int .nil)) m s _ r fun v b σ' W' m' s' p r' g' e' => cmpBack e' p.1 (k v b σ' W' m' s' p.2 r' g' e')
theorem bin_fq_divi (O : Ok S c n) (hn : 50 ≤ n) {q a b : Int} {P : V → St → Prop} (hq : 0 < q) (hq2 : q < 1000) (a0 : 0 ≤ a) (a1 : a < q) (b0 : -1000000 < b) (b1 : b < 1000000) (h : P (fqV q (Int.fmod (a * pfi b q) q)) σ) : BinS S c .Div (fqV q a) (.int b) σ P := fun W x y hx hy m s Q r k => by
  obtain ⟨xa, dx, odx, rfl, Ix⟩ := hx.fqI r
  cases hy
  have X := hK ▸ O.X
  refine bin_of (op := .Div) (bin1_int (X.keeps r.F.keep) Ix (by k_is) (by k_is) (by k_is) (by k_is) (by first | exact .inl rfl | exact .inr ⟨_, rfl⟩) (by k_is) (by k_is) (by k_is) ?_)
  exact c_fq_divi hK O hn hq hq2 a0 a1 b0 b1 (P := fun v σ' => notOld v = true ∧ P v σ') ⟨rfl, h⟩ W _ _ .old (.cons hx (.cons .int .nil)) m s _ r fun v b σ' W' m' s' p r' g' e' => cmpBack e' p.1 (k v b σ' W' m' s' p.2 r' g' e')
theorem inp_fq_rsub (O : Ok S c n) (hn : 50 ≤ n) {q a b : Int} {P : V → St → Prop} (hq : 0 < q) (hq2 : q < 1000) (a0 : 0 ≤ a) (a1 : a < q) (b0 : -1000000 < b) (b1 : b < 1000000) (h : P (fqV q (Int.fmod (b - a) q)) σ) : InpS S c .Sub (.int b) (fqV q a) σ P := fun W y x hy hx m s Q r k => by
  obtain ⟨xa, dx, odx, rfl, Ix⟩ := hx.fqI r
  cases hy
  have X := hK ▸ O.X
  refine inpl_IR (op := .Sub) r.F X Ix (by k_is) (by k_is) (by k_is) (by k_is) (by k_is) F.fills_int_sub F.slot_int_sub noInpSub2 (decl_sub Ix rfl) ?_
  exact c_fq_rsub hK O hn hq hq2 a0 a1 b0 b1 (P := fun v σ' => notOld v = true ∧ P v σ') ⟨rfl, h⟩ W _ _ .old (.cons hx (.cons .int .nil)) m s _ r fun v b σ' W' m' s' p r' g' e' => cmpBack e' p.1 (k v b σ' W' m' s' p.2 r' g' e')
theorem bin_fq_rdiv (O : Ok S c n) (hn : 50 ≤ n) {q a b : Int} {P : V → St → Prop} (hq : 0 < q) (hq2 : q < 1000) (a0 : 0 ≤ a) (a1 : a < q) (b0 : -1000000 < b) (b1 : b < 1000000) (h : P (fqV q (Int.fmod (pfi a q * b) q)) σ) : BinS S c .Div (.int b) (fqV q a) σ P := fun W y x hy hx m s Q r k => by
  obtain ⟨xa, dx, odx, rfl, Ix⟩ := hx.fqI r
  cases hy
  have X := hK ▸ O.X
  refine bin_of (op := .Div) (bin1_IR (X.keeps r.F.keep) Ix (by k_is) (by k_is) (by k_is) (by k_is) (by k_is) F.fills_int_truediv F.slot_int_truediv (decl_div Ix rfl) ?_)
  exact c_fq_rdiv hK O hn hq hq2 a0 a1 b0 b1 (P := fun v σ' => notOld v = true ∧ P v σ') ⟨rfl, h⟩ W _ _ .old (.cons hx (.cons .int .nil)) m s _ r fun v b σ' W' m' s' p r' g' e' => cmpBack e' p.1 (k v b σ' W' m' s' p.2 r' g' e')
end

local macro_rules | `(tactic| wtm_at "syInp") => `(tactic| ((with_reducible refine' inp_fq_rsub ?hK ?O ?hn ?hq ?hq2 ?a0 ?a1 ?b0 ?b1 ?_); (case hK => assumption); (case O => assumption); (case hn => first | exact Nat.le_of_ble_eq_true rfl | omega); (case hq => assumption); (case hq2 => assumption); (case a0 => wtm_at "syB0"); (case a1 => wtm_at "syB0"); (case b0 => wtm_at "syB0"); (case b1 => wtm_at "syB0")))
local macro_rules | `(tactic| wtm_at "syInp") => `(tactic| ((with_reducible refine' inp_fq_isub ?hK ?O ?hn ?hq ?hq2 ?a0 ?a1 ?b0 ?b1 ?_); (case hK => assumption); (case O => assumption); (case hn => first | exact Nat.le_of_ble_eq_true rfl | omega); (case hq => assumption); (case hq2 => assumption); (case a0 => wtm_at "syB0"); (case a1 => wtm_at "syB0"); (case b0 => wtm_at "syB0"); (case b1 => wtm_at "syB0")))
local macro_rules | `(tactic| wtm_at "syInp") => `(tactic| ((with_reducible refine' inp_fq_sub ?hK ?O ?hn ?hq ?hq2 ?a0 ?a1 ?b0 ?b1 ?_); (case hK => assumption); (case O => assumption); (case hn => first | exact Nat.le_of_ble_eq_true rfl | omega); (case hq => assumption); (case hq2 => assumption); (case a0 => wtm_at "syB0"); (case a1 => wtm_at "syB0"); (case b0 => wtm_at "syB0"); (case b1 => wtm_at "syB0")))
local macro_rules | `(tactic| wtm_at "syInp") => `(tactic| ((with_reducible refine' inp_fq_add ?hK ?O ?hn ?hq ?hq2 ?a0 ?a1 ?b0 ?b1 ?_); (case hK => assumption); (case O => assumption); (case hn => first | exact Nat.le_of_ble_eq_true rfl | omega); (case hq => assumption); (case hq2 => assumption); (case a0 => wtm_at "syB0"); (case a1 => wtm_at "syB0"); (case b0 => wtm_at "syB0"); (case b1 => wtm_at "syB0")))
local macro_rules | `(tactic| wtm_at "syBin") => `(tactic| ((with_reducible refine' bin_fq_rdiv ?hK ?O ?hn ?hq ?hq2 ?a0 ?a1 ?b0 ?b1 ?_); (case hK => assumption); (case O => assumption); (case hn => first | exact Nat.le_of_ble_eq_true rfl | omega); (case hq => assumption); (case hq2 => assumption); (case a0 => wtm_at "syB0"); (case a1 => wtm_at "syB0"); (case b0 => wtm_at "syB0"); (case b1 => wtm_at "syB0")))
local macro_rules | `(tactic| wtm_at "syBin") => `(tactic| ((with_reducible refine' bin_fq_divi ?hK ?O ?hn ?hq ?hq2 ?a0 ?a1 ?b0 ?b1 ?_); (case hK => assumption); (case O => assumption); (case hn => first | exact Nat.le_of_ble_eq_true rfl | omega); (case hq => assumption); (case hq2 => assumption); (case a0 => wtm_at "syB0"); (case a1 => wtm_at "syB0"); (case b0 => wtm_at "syB0"); (case b1 => wtm_at "syB0")))
local macro_rules | `(tactic| wtm_at "syBin") => `(tactic| ((with_reducible refine' bin_fq_muli ?hK ?O ?hn ?hq ?hq2 ?a0 ?a1 ?b0 ?b1 ?_); (case hK => assumption); (case O => assumption); (case hn => first | exact Nat.le_of_ble_eq_true rfl | omega); (case hq => assumption); (case hq2 => assumption); (case a0 => wtm_at "syB0"); (case a1 => wtm_at "syB0"); (case b0 => wtm_at "syB0"); (case b1 => wtm_at "syB0")))
local macro_rules | `(tactic| wtm_at "syBin") => `(tactic| ((with_reducible refine' bin_fq_div ?hK ?O ?hn ?hq ?hq2 ?a0 ?a1 ?b0 ?b1 ?_); (case hK => assumption); (case O => assumption); (case hn => first | exact Nat.le_of_ble_eq_true rfl | omega); (case hq => assumption); (case hq2 => assumption); (case a0 => wtm_at "syB0"); (case a1 => wtm_at "syB0"); (case b0 => wtm_at "syB0"); (case b1 => wtm_at "syB0")))
local macro_rules | `(tactic| wtm_at "syBin") => `(tactic| ((with_reducible refine' bin_fq_mul ?hK ?O ?hn ?hq ?hq2 ?a0 ?a1 ?b0 ?b1 ?_); (case hK => assumption); (case O => assumption); (case hn => first | exact Nat.le_of_ble_eq_true rfl | omega); (case hq => assumption); (case hq2 => assumption); (case a0 => wtm_at "syB0"); (case a1 => wtm_at "syB0"); (case b0 => wtm_at "syB0"); (case b1 => wtm_at "syB0")))

section

section
variable {S : Sx} (hK : S.K = hd.heap_39 S.w.params) (hT : (348, (⟨288, 28, 288, 80⟩ : Pos)) ∈ S.tabs) (hD : ∀ t ∈ S.tabs, t.1 = 348 → t.2 = (⟨288, 28, 288, 80⟩ : Pos))
variable {c : Cx} {σ : St} {n : Nat} {q cc na u0 u1 v0 v1 : Int} {P : V → St → Prop} (hfz : c.fz = false) (O : Ok S c n)
  (hq : 0 < q) (hq2 : q < 1000) (c0 : 0 ≤ cc) (c1 : cc < q) (n0 : 0 ≤ na) (n1 : na < q)
  (a0 : 0 ≤ u0) (a1 : u0 < q) (b0 : 0 ≤ u1) (b1 : u1 < q) (d0 : 0 ≤ v0) (d1 : v0 < q) (e0 : 0 ≤ v1) (e1 : v1 < q)
include hK hT hD hfz O hq hq2 c0 c1 n0 n1 a0 a1 b0 b1
section
include d0 d1 e0 e1
theorem pl_mul (hn : 100 ≤ n) (h : P (plV q cc na (Int.fmod (u0 * v0 - u1 * v1 * cc) q) (Int.fmod (u0 * v1 + u1 * v0 - u1 * v1 * na) q)) σ) :
   CallS S c (.old (.ref 382)) [plV q cc na u0 u1, plV q cc na v0 v1] σ P := by
  have O := O.mono hn
  wtm_at "syF230"
  repeat wtm_at "sy"
  refine pl_eq ?_ ?_ h
  all_goals wtm_at "meq"
end
section
include d0 d1 e0 e1
end
omit c0 c1 n0 n1 in
theorem pl_div (hn : 100 ≤ n) {d : Int} (d0 : -1000000 < d) (d1 : d < 1000000) (h : P (plV q cc na (Int.fmod (u0 * pfi d q) q) (Int.fmod (u1 * pfi d q) q)) σ) :
   CallS S c (.old (.ref 394)) [plV q cc na u0 u1, .int d] σ P := by
  have O := O.mono hn
  wtm_at "syF242"
  repeat wtm_at "sy"
  refine pl_eq ?_ ?_ h
  all_goals wtm_at "meq"
end

def lawN (ns : List Int) (k : Nat) : Int := match ns[k]? with
  | some v => v
  | none => 5 * (k : Int) + 2
def lawAt (ns : List Int) (k : Nat) : Int := if -1000000000 < lawN ns k ∧ lawN ns k < 1000000000 then lawN ns k else Int.fmod (lawN ns k) 1000003
section
variable {S : Sx} (hK : S.K = hd.heap_39 S.w.params)
variable {c : Cx} {σ : St} {n : Nat} {P : V → St → Prop} {ns : List Int} (hI : IntsAre S.sv ns) (hsz : S.sv.length < 1000) (O : Ok S c n)
include hK hI hsz O
theorem law_at (hn : 20 ≤ n) (k : Nat) (e : Int) (he : e = k) (hk : k < 6) (h : P (.int (lawAt ns k)) σ) :
   CallS S c (.old (.ref 467)) [.old (.ref S.sa), .int e] σ P := by
  have O := O.mono hn
  have hl : S.sv.length = ns.length := hI.length
  wtm_at "syF467"
  repeat wtm_at "sy"
  have A1 : -1000000000 < lawN ns k → lawN ns k < 1000000000 → lawAt ns k = lawN ns k := fun g1 g2 => if_pos ⟨g1, g2⟩
  have A2 : ¬ -1000000000 < lawN ns k → lawAt ns k = Int.fmod (lawN ns k) 1000003 := fun g => if_neg fun z => g z.1
  have A3 : ¬ lawN ns k < 1000000000 → lawAt ns k = Int.fmod (lawN ns k) 1000003 := fun g => if_neg fun z => g z.2
  by_cases hk : k < ns.length
  · refine ite_pos (by rw [he, hl]; simpa using hk) ?_
    have hv : ns[e.toNat]? = some (lawN ns k) := by
      have : e.toNat = k := by omega
      rw [this]; unfold lawN; rw [List.getElem?_eq_getElem hk]
    repeat wtm_at "sy"
    by_cases g1 : -1000000000 < lawN ns k
    · refine ite_pos (by simpa using g1) ?_
      repeat wtm_at "sy"
      by_cases g2 : lawN ns k < 1000000000
      · refine ite_pos (by simpa using g2) ?_
        repeat wtm_at "sy"
        rw [← A1 g1 g2]; exact h
      · refine ite_neg (by simpa using g2) ?_
        repeat wtm_at "sy"
        rw [← A3 g2]; exact h
    · refine ite_neg (by simpa using g1) ?_
      repeat wtm_at "sy"
      rw [← A2 g1]; exact h
  · refine ite_neg (by rw [he, hl]; simpa using hk) ?_
    have hv : 5 * e + 2 = lawN ns k := by
      unfold lawN; rw [List.getElem?_eq_none (by omega), he]
    repeat wtm_at "sy"
    rw [hv]
    by_cases g1 : -1000000000 < lawN ns k
    · refine ite_pos (by simpa using g1) ?_
      repeat wtm_at "sy"
      by_cases g2 : lawN ns k < 1000000000
      · refine ite_pos (by simpa using g2) ?_
        repeat wtm_at "sy"
        rw [← A1 g1 g2]; exact h
      · refine ite_neg (by simpa using g2) ?_
        repeat wtm_at "sy"
        rw [← A3 g2]; exact h
    · refine ite_neg (by simpa using g1) ?_
      repeat wtm_at "sy"
      rw [← A2 g1]; exact h
end

section
variable {S : Sx} (hK : S.K = hd.heap_39 S.w.params)
variable {c : Cx} {σ : St} {n : Nat} {P : V → St → Prop} {q cc na u v : Int} (hfz : c.fz = false) (O : Ok S c n)
include hK hfz O
theorem law_plain_pl (hn : 60 ≤ n) (hq : 0 < q) (hq2 : q < 1000) (a0 : 0 ≤ u) (a1 : u < q) (b0 : 0 ≤ v) (b1 : v < q) (h : NewK σ [.int (Int.fmod u q), .int (Int.fmod v q)] P) :
   CallS S c (.old (.ref 479)) [plV q cc na u v, .int q] σ P := by
  have O := O.mono hn
  have qne : q ≠ 0 := by omega
  wtm_at "syF479"
  repeat wtm_at "sy"
  exact h
end

section
variable {S : Sx} (hK : S.K = hd.heap_39 S.w.params)
variable {c : Cx} {σ : St} {n : Nat} {P : V → St → Prop} (hfz : c.fz = false) (O : Ok S c n)
include hK hfz O
theorem law_primes (hn : 10 ≤ n) (h : NewK σ [.int 3, .int 5, .int 7, .int 11, .int 13, .int 17, .int 19, .int 23, .int 29, .int 31] P) :
   CallS S c (.old (.ref 460)) [] σ P := by
  have O := O.mono hn
  wtm_at "syF460"
  repeat wtm_at "sy"
  exact h
end

section
variable {S : Sx} (hK : S.K = hd.heap_39 S.w.params) (hT : (348, (⟨288, 28, 288, 80⟩ : Pos)) ∈ S.tabs) (hD : ∀ t ∈ S.tabs, t.1 = 348 → t.2 = (⟨288, 28, 288, 80⟩ : Pos))
variable {c : Cx} {σ : St} {n : Nat} {P : V → St → Prop} {q u v : Int} {j : Nat} (hfz : c.fz = false) (O : Ok S c n)
include hK hT hD hfz O
theorem law_made_pl (hn : 80 ≤ n) (hq : 0 < q) (hq2 : q < 1000) (hj : σ.ls[j]? = some [.int u, .int v]) (a0 : -1000000 < u) (a1 : u < 1000000) (b0 : -1000000 < v) (b1 : v < 1000000) (h : P (plV q 1 0 (Int.fmod u q) (Int.fmod v q)) σ) :
   CallS S c (.old (.ref 474)) [.lst j, .int q, .int 0] σ P := by
  have O := O.mono hn
  have qne : q ≠ 0 := by omega
  wtm_at "syF474"
  repeat wtm_at "sy"
  exact h
end

set_option linter.unusedSectionVars false
def turnT (p f : Int) : Nat → Int × Int
  | 0 => (1, f)
  | n + 1 => ((turnT p f n).2, Int.fmod (2 * f * (turnT p f n).2 - (turnT p f n).1) p)
def turnU (p f : Int) : Nat → Int × Int
  | 0 => (0, 1)
  | n + 1 => ((turnU p f n).2, Int.fmod (2 * f * (turnU p f n).2 - (turnU p f n).1) p)
theorem turnT_in {p f : Int} (p0 : 1 < p) (f0 : 0 ≤ f) (f1 : f < p) : ∀ n, 0 ≤ (turnT p f n).2 ∧ (turnT p f n).2 < p
  | 0 => ⟨f0, f1⟩
  | n + 1 => ⟨fm_lo _ (by omega), fm_hi _ (by omega)⟩
theorem turnU_in {p f : Int} (p0 : 1 < p) : ∀ n, 0 ≤ (turnU p f n).2 ∧ (turnU p f n).2 < p
  | 0 => ⟨by show (0 : Int) ≤ 1; decide, p0⟩
  | n + 1 => ⟨fm_lo _ (by omega), fm_hi _ (by omega)⟩
theorem turnU_in1 {p f : Int} (p0 : 1 < p) : ∀ n, 0 ≤ (turnU p f n).1 ∧ (turnU p f n).1 < p
  | 0 => ⟨by show (0 : Int) ≤ 0; decide, by show (0 : Int) < p; omega⟩
  | n + 1 => turnU_in p0 n
section
variable {S : Sx} (hK : S.K = hd.heap_39 S.w.params)
variable {c : Cx} {σ : St} {n : Nat} {P : V → St → Prop} (hfz : c.fz = false) (O : Ok S c n)
include hK hfz O
theorem law_point (hn : 30 ≤ n) {p t : Int} {r : Nat} (p0 : 2 < p) (p1 : p < 1000) (t0 : 0 ≤ t) (t1 : t < p) (hr : Builtin.powMod ((1 + t * t) % p).toNat (p - 2).toNat p.toNat = r) (r1 : r < 1000000)
   (h : NewK σ [.int (Int.fmod ((1 - t * t) * (r : Int)) p), .int (Int.fmod (2 * t * (r : Int)) p)] P) :
   CallS S c (.old (.ref 486)) [.int t, .int p] σ P := by
  have O := O.mono hn
  have qne : p ≠ 0 := by omega
  wtm_at "syF486"
  repeat wtm_at "sy"
  rw [hr]
  repeat wtm_at "sy"
  exact h
theorem law_turn (hn : 30 ≤ n) {p f s e : Int} (k : Nat) (hk : k < 500) (he : e = k) (p0 : 2 < p) (p1 : p < 1000) (f0 : 0 ≤ f) (f1 : f < p) (s0 : 0 ≤ s) (s1 : s < p)
   (h : NewK σ [.int (Int.fmod (turnT p f k).1 p), .int (Int.fmod ((turnU p f k).1 * s) p)] P) :
   CallS S c (.old (.ref 493)) [.int f, .int e, .int s, .int p] σ P := by
  have O := O.mono hn
  subst he
  have pne : p ≠ 0 := by omega
  have hsm : RngOk k := ⟨by omega⟩
  wtm_at "syF493"
  repeat wtm_at "sy"
  rename_i c1 E1 Z1 F1 L1 O1
  refine loop_inv (J := fun i σ' => ∃ L, σ' = ⟨L, [], σ.ls ++ []⟩ ∧ L.lookup (Str.ofString "here") = some (.int (turnT p f i).1) ∧ L.lookup (Str.ofString "there") = some (.int (turnT p f i).2) ∧ L.lookup (Str.ofString "one") = some (.int (turnU p f i).1) ∧ L.lookup (Str.ofString "other") = some (.int (turnU p f i).2) ∧ L.lookup (Str.ofString "first") = some (.int f) ∧ L.lookup (Str.ofString "second") = some (.int s) ∧ L.lookup (Str.ofString "p") = some (.int p)) k ⟨_, rfl, rfl, rfl, rfl, rfl, rfl, rfl, rfl⟩ ?_ ?_
  · rintro i σ' hi ⟨L, rfl, hH, hT, hO, hU, hF, hS, hP⟩ c2 E2 Z2 L2 O2
    have E2 := E2.trans E1
    have Z2 := Z2.trans Z1
    have L2 := L2.trans L1
    have tT := turnT_in (f := f) (p := p) (by omega) f0 f1 i
    have tU := turnU_in (f := f) (p := p) (by omega) i
    repeat wtm_at "sy"
    exact ⟨rfl, _, rfl, rfl, rfl, rfl, rfl, hF, hS, hP⟩
  · rintro σ' ⟨L, rfl, hH, hT, hO, hU, hF, hS, hP⟩
    have tU := turnU_in1 (f := f) (p := p) (by omega) k
    repeat wtm_at "sy"
    exact h
theorem law_common (hn : 30 ≤ n) {a b : Nat} (ha : a < 1000) (hb : b < 1000) (h : P (.int (Nat.gcd a b)) σ) :
   CallS S c (.old (.ref 500)) [.int a, .int b] σ P := by
  have O := O.mono hn
  wtm_at "syF500"
  repeat ((fail_if_success (with_reducible show WhS _ _ _ _ _ _)); wtm_at "sy")
  refine wh_inv (J := fun k σ' => ∃ (L : List (Str × V)) (x y : Nat), y = k ∧ x < 1000 ∧ y < 1000 ∧ Nat.gcd x y = Nat.gcd a b ∧ σ' = ⟨L, [], σ.ls ++ []⟩ ∧ L.lookup (Str.ofString "one") = some (.int x) ∧ L.lookup (Str.ofString "other") = some (.int y)) ?_ b _ ⟨_, a, b, rfl, ha, hb, rfl, rfl, rfl, rfl⟩
  rintro k σ' ⟨L, x, y, rfl, hx, hy, hg, rfl, hO, hU⟩
  repeat wtm_at "sy"
  by_cases y0 : 0 < (y : Int)
  · have yne : (y : Int) ≠ 0 := by omega
    have e : Int.fmod (x : Int) (y : Int) = ((x % y : Nat) : Int) := by rw [Int.fmod_eq_emod_of_nonneg _ (by omega)]; rfl
    have lt : x % y < y := Nat.mod_lt _ (by omega)
    refine ite_pos (decide_eq_true y0) ?_
    repeat wtm_at "sy"
    rw [e]
    refine ⟨rfl, x % y, lt, _, y, x % y, rfl, hy, by omega, ?_, rfl, rfl, rfl⟩
    rw [← hg, Nat.gcd_comm x y, Nat.gcd_rec y x, Nat.gcd_comm]
  · have y00 : y = 0 := by omega
    refine ite_neg (by simpa using y0) ?_
    rw [y00, Nat.gcd_zero_right] at hg
    repeat wtm_at "sy"
    rw [hg]
    exact h
end

end

theorem fm_self {a q : Int} (h0 : 0 ≤ a) (h1 : a < q) : Int.fmod a q = a := by rw [Int.fmod_eq_emod_of_nonneg a (by omega)]; exact Int.emod_eq_of_lt h0 h1
section
local macro_rules | `(tactic| wtm_at "syCt") => `(tactic| ((with_reducible refine' pl_div ?hK ?hT ?hD ?hfz ?O ?hq ?hq2 ?a0 ?a1 ?b0 ?b1 ?hn ?d0 ?d1 ?_); (case hK => assumption); (case hT => assumption); (case hD => assumption); (case hfz => assumption); (case O => assumption); (case hq => assumption); (case hq2 => assumption); (case a0 => wtm_at "syB0"); (case a1 => wtm_at "syB0"); (case b0 => wtm_at "syB0"); (case b1 => wtm_at "syB0"); (case hn => first | exact Nat.le_of_ble_eq_true rfl | omega); (case d0 => wtm_at "syB0"); (case d1 => wtm_at "syB0")))
local macro_rules | `(tactic| wtm_at "syCt") => `(tactic| ((with_reducible refine' pl_mul ?hK ?hT ?hD ?hfz ?O ?hq ?hq2 ?c0 ?c1 ?n0 ?n1 ?a0 ?a1 ?b0 ?b1 ?d0 ?d1 ?e0 ?e1 ?hn ?_); (case hK => assumption); (case hT => assumption); (case hD => assumption); (case hfz => assumption); (case O => assumption); (case hq => assumption); (case hq2 => assumption); (case c0 => assumption); (case c1 => assumption); (case n0 => assumption); (case n1 => assumption); (case a0 => wtm_at "syB0"); (case a1 => wtm_at "syB0"); (case b0 => wtm_at "syB0"); (case b1 => wtm_at "syB0"); (case d0 => wtm_at "syB0"); (case d1 => wtm_at "syB0"); (case e0 => wtm_at "syB0"); (case e1 => wtm_at "syB0"); (case hn => first | exact Nat.le_of_ble_eq_true rfl | omega)))
def mulP (q cc na : Int) (x y : Int × Int) : Int × Int := (Int.fmod (x.1 * y.1 - x.2 * y.2 * cc) q, Int.fmod (x.1 * y.2 + x.2 * y.1 - x.2 * y.2 * na) q)
def powF (q cc na : Int) : Nat → Nat → Int × Int → Int × Int
  | 0, _, _ => (Int.fmod 1 q, Int.fmod 0 q)
  | f + 1, k, x => if k = 0 then (Int.fmod 1 q, Int.fmod 0 q) else if k = 1 then (Int.fmod x.1 q, Int.fmod x.2 q) else if k % 2 = 0 then powF q cc na f (k / 2) (mulP q cc na x x) else mulP q cc na (powF q cc na f (k / 2) (mulP q cc na x x)) x
theorem two_in {q : Int} (hq : 0 < q) (a b : Int) : (0 ≤ (Int.fmod a q, Int.fmod b q).1 ∧ (Int.fmod a q, Int.fmod b q).1 < q) ∧ (0 ≤ (Int.fmod a q, Int.fmod b q).2 ∧ (Int.fmod a q, Int.fmod b q).2 < q) := ⟨⟨fm_lo a hq, fm_hi a hq⟩, fm_lo b hq, fm_hi b hq⟩
theorem powF_in {q cc na : Int} (hq : 0 < q) : ∀ (f k : Nat) (x : Int × Int), (0 ≤ (powF q cc na f k x).1 ∧ (powF q cc na f k x).1 < q) ∧ (0 ≤ (powF q cc na f k x).2 ∧ (powF q cc na f k x).2 < q)
  | 0, _, _ => two_in hq 1 0
  | f + 1, k, x => by
    unfold powF
    split
    · exact two_in hq 1 0
    · split
      · exact two_in hq _ _
      · split
        · exact powF_in hq f _ _
        · exact two_in hq _ _
section
variable {S : Sx} (hK : S.K = hd.heap_39 S.w.params) (hT : (348, (⟨288, 28, 288, 80⟩ : Pos)) ∈ S.tabs) (hD : ∀ t ∈ S.tabs, t.1 = 348 → t.2 = (⟨288, 28, 288, 80⟩ : Pos))
variable {q cc na : Int} 
  (hq : 0 < q) (hq2 : q < 1000) (c0 : 0 ≤ cc) (c1 : cc < q) (n0 : 0 ≤ na) (n1 : na < q)
include hK hT hD hq hq2 c0 c1 n0 n1
theorem pl_pow : ∀ (f k : Nat) (e : Int) (c : Cx) (σ : St) (n : Nat) (u0 u1 : Int) (P : V → St → Prop) (hk : k ≤ f) (hf : f < 1000) (he : e = k) (hn : 110 + f ≤ n) (hfz : c.fz = false) (O : Ok S c n)
  (a0 : 0 ≤ u0) (a1 : u0 < q) (b0 : 0 ≤ u1) (b1 : u1 < q) (h : P (plV q cc na (powF q cc na f k (u0, u1)).1 (powF q cc na f k (u0, u1)).2) σ),
   CallS S c (.old (.ref 401)) [plV q cc na u0 u1, .int e] σ P
  | f, k, e => by
    intro c σ n u0 u1 P hk hf he hn hfz O a0 a1 b0 b1 h
    obtain ⟨n, rfl⟩ : ∃ n', n = n' + 1 := ⟨n - 1, by omega⟩
    wtm_at "syF249"
    repeat wtm_at "sy"
    by_cases hk0 : k = 0
    · refine ite_pos (by simp [he, hk0]) ?_
      repeat wtm_at "sy"
      have e1 : powF q cc na f k (u0, u1) = (Int.fmod 1 q, Int.fmod 0 q) := by
        cases f with
        | zero => rfl
        | succ f => unfold powF; rw [if_pos hk0]
      rw [e1] at h
      exact h
    · obtain ⟨f, rfl⟩ : ∃ f', f = f' + 1 := ⟨f - 1, by omega⟩
      refine ite_neg (by simp [he, hk0]) ?_
      repeat wtm_at "sy"
      by_cases hk1 : k = 1
      · refine ite_pos (by simp [he, hk1]) ?_
        repeat wtm_at "sy"
        have e1 : powF q cc na (f + 1) k (u0, u1) = (Int.fmod u0 q, Int.fmod u1 q) := by
          unfold powF; rw [if_neg hk0, if_pos hk1]
        rw [e1] at h
        exact h
      · refine ite_neg (by simp only [he, beq_iff_eq]; omega) ?_
        repeat wtm_at "sy"
        have e2 : e.fdiv 2 = ((k / 2 : Nat) : Int) := by rw [he, Int.fdiv_eq_ediv_of_nonneg _ (by decide)]; rfl
        have e3 : e.fmod 2 = ((k % 2 : Nat) : Int) := by rw [he, Int.fmod_eq_emod_of_nonneg _ (by decide)]; rfl
        have e1 := show powF q cc na (f + 1) k (u0, u1) = _ by unfold powF; rw [if_neg hk0, if_neg hk1]
        by_cases hk2 : k % 2 = 0
        · refine ite_pos (by rw [e3, hk2]; rfl) ?_
          rw [if_pos hk2] at e1
          rw [e1] at h
          repeat wtm_at "sy"
          refine pl_pow f (k / 2) _ _ _ n _ _ _ (by omega) (by omega) e2 (by omega) (by assumption) (by assumption) (fm_lo _ hq) (fm_hi _ hq) (fm_lo _ hq) (fm_hi _ hq) ?_
          repeat wtm_at "sy"
          exact h
        · refine ite_neg (by rw [e3, beq_iff_eq]; omega) ?_
          rw [if_neg hk2] at e1
          rw [e1] at h
          have hb := powF_in (cc := cc) (na := na) hq f (k / 2) (mulP q cc na (u0, u1) (u0, u1))
          repeat wtm_at "sy"
          refine pl_pow f (k / 2) _ _ _ n _ _ _ (by omega) (by omega) e2 (by omega) (by assumption) (by assumption) (fm_lo _ hq) (fm_hi _ hq) (fm_lo _ hq) (fm_hi _ hq) ?_
          have g0 := hb.1.1
          have g1 := hb.1.2
          have g2 := hb.2.1
          have g3 := hb.2.2
          repeat wtm_at "sy"
          exact h
  termination_by f => f
end

section
variable {S : Sx} (hK : S.K = hd.heap_39 S.w.params) (hT : (348, (⟨288, 28, 288, 80⟩ : Pos)) ∈ S.tabs) (hD : ∀ t ∈ S.tabs, t.1 = 348 → t.2 = (⟨288, 28, 288, 80⟩ : Pos))
variable {c : Cx} {σ : St} {n : Nat} {q u v : Int} {P : V → St → Prop} (hfz : c.fz = false) (O : Ok S c n)
  (hq : 0 < q) (hq1 : 1 < q) (hq2 : q < 100) (u0 : 0 ≤ u) (u1 : u < q)
include hK hT hD hfz O hq hq1 hq2 u0 u1
theorem pl_inv0 (hn : 120 ≤ n) (h : P (plV q 1 0 (Int.fmod (1 * pfi u q) q) (Int.fmod (0 * pfi u q) q)) σ) :
   CallS S c (.old (.ref 406)) [plV q 1 0 u 0] σ P := by
  have O := O.mono hn
  have hq2 : q < 1000 := by omega
  wtm_at "syF254"
  repeat wtm_at "sy"
  by_cases un : u = 0
  · refine ite_pos (by simpa using un) ?_
    repeat wtm_at "sy"
    refine pl_eq ?_ ?_ h
    all_goals wtm_at "meq"
  · refine ite_neg (by simpa using un) ?_
    repeat wtm_at "sy"
    refine pl_eq ?_ ?_ h
    all_goals wtm_at "meq"
theorem pl_inv2 (hn : 120 ≤ n) (hp : PfiOk q) (hN : ¬ MEq q (u * u + v * v) 0) (v0 : 0 ≤ v) (v1 : v < q) (vn : v ≠ 0) (w0 : 0 ≤ pfi v q) (w1 : pfi v q < q) (wn : pfi v q ≠ 0) (hy : Int.fmod (1 - v * pfi v q) q = 0)
   (h : ∀ z0 z1, 0 ≤ z0 → z0 < q → 0 ≤ z1 → z1 < q → MEq q (u * z0 - v * z1) 1 ∧ MEq q (u * z1 + v * z0) 0 → P (plV q 1 0 z0 z1) σ) :
   CallS S c (.old (.ref 406)) [plV q 1 0 u v] σ P := by
  have O := O.mono hn
  have hq2' : q < 1000 := by omega
  wtm_at "syF254"
  repeat wtm_at "sy"
  refine ite_neg (by simpa using vn) ?_
  repeat wtm_at "sy"
  refine ite_neg (by simpa using vn) ?_
  repeat wtm_at "sy"
  have ew : Int.fmod (pfi v q) q = pfi v q := fm_self w0 w1
  rw [ew]
  refine ite_neg (by simpa using wn) ?_
  repeat wtm_at "sy"
  have x2 : Int.fmod (Int.fmod (Int.fmod 1 q - Int.fmod (v * pfi v q) q) q) q = 0 := by
    have : Int.fmod (Int.fmod (Int.fmod 1 q - Int.fmod (v * pfi v q) q) q) q = Int.fmod (1 - v * pfi v q) q := by wtm_at "meq"
    rw [this, hy]
  have x1 : Int.fmod (Int.fmod (0 - Int.fmod (u * pfi v q) q) q) q = Int.fmod (0 - u * pfi v q) q := by wtm_at "meq"
  have e1 : Int.fmod 1 q = 1 := fm_self (by decide) hq1
  rw [x2, x1, e1]
  have s0 := fm_lo (0 - u * pfi v q) hq
  have s1 := fm_hi (0 - u * pfi v q) hq
  generalize hs : Int.fmod (0 - u * pfi v q) q = s at *
  repeat wtm_at "sy"
  by_cases sn : s = 0
  · refine ite_pos (by simpa using sn) ?_
    have fin := inv_s0 (u := u) (g := _) hp v0 v1 vn hs.symm rfl sn
    subst sn
    repeat wtm_at "sy"
    refine h _ _ (fm_lo _ hq) (fm_hi _ hq) (fm_lo _ hq) (fm_hi _ hq) (inv_res ?_ ?_ fin)
    · exact MEq.fmr.trans (((MEq.fmr (q := q) (a := 0)).mul (pfi1 hq1 hp)).trans (by rw [Int.mul_one]; exact .rfl'))
    · exact MEq.fmr.trans ((MEq.rfl'.mul (pfi1 hq1 hp)).trans (by rw [Int.mul_one]; exact .rfl'))
  · refine ite_neg (by simpa using sn) ?_
    repeat wtm_at "sy"
    refine ite_neg (by simpa using vn) ?_
    repeat wtm_at "sy"
    refine ite_neg (by simpa using sn) ?_
    repeat wtm_at "sy"
    have t0 := fm_lo (v * pfi s q) hq
    have t1 := fm_hi (v * pfi s q) hq
    generalize ht : Int.fmod (v * pfi s q) q = t at *
    have T0 : -1000000 < t := by omega
    have T1 : t < 1000000 := by omega
    have hst := inv_st hq1 hp u0 u1 hN v0 v1 vn hs.symm rfl ht s0 s1 sn
    have hD := inv_D hq1 hp u0 u1 hN v0 v1 vn hs.symm rfl ht s0 s1 sn
    have fin := fun x y => inv_fin (x := x) (y := y) hq1 hp u0 u1 hN v0 v1 vn hs.symm rfl ht s0 s1 sn
    repeat wtm_at "sy"
    have tn : t ≠ 0 := fun e => by
      have := hst
      rw [e, Int.mul_zero, Int.sub_zero, fm_self v0 v1] at this
      exact vn this
    refine ite_neg (by simpa using tn) ?_
    repeat wtm_at "sy"
    have y1 : Int.fmod (Int.fmod v q - Int.fmod (s * t) q) q = 0 := by
      have : Int.fmod (Int.fmod v q - Int.fmod (s * t) q) q = Int.fmod (v - s * t) q := by wtm_at "meq"
      rw [this, hst]
    have y0 : Int.fmod (u - Int.fmod t q) q = Int.fmod (u - t) q := by wtm_at "meq"
    have ex : 0 - (0 - pfi v q) * t = pfi v q * t := by grind
    have b0 : 0 ≤ pfi v q * t := Int.mul_nonneg w0 t0
    have b1 : pfi v q * t ≤ 100 * 100 := Int.mul_le_mul (by omega) (by omega) t0 (by decide)
    rw [y1, y0, ex]
    have X0 : -1000000 < pfi v q * t := by generalize pfi v q * t = x at *; omega
    have X1 : pfi v q * t < 1000000 := by generalize pfi v q * t = x at *; omega
    have D0 : -1000000 < Int.fmod (u - t) q := by have := fm_lo (u - t) hq; omega
    have D1 : Int.fmod (u - t) q < 1000000 := by have := fm_hi (u - t) hq; omega
    repeat wtm_at "sy"
    refine ite_neg (by simpa using hD) ?_
    repeat wtm_at "sy"
    refine h _ _ (fm_lo _ hq) (fm_hi _ hq) (fm_lo _ hq) (fm_hi _ hq) (fin _ _ ?_ ?_)
    · exact MEq.fmr.trans (MEq.fmr.mul .rfl')
    · refine MEq.fmr.trans ((MEq.fmr.trans ?_).mul .rfl')
      rw [← ex]
      exact MEq.rfl'.sub ((MEq.symm .fmr).mul .rfl')
theorem pl_invG (hn : 120 ≤ n) (hp : PfiOk q) (hN : ¬ MEq q (u * u + v * v) 0) (v0 : 0 ≤ v) (v1 : v < q)
   (h : ∀ z0 z1, 0 ≤ z0 → z0 < q → 0 ≤ z1 → z1 < q → MEq q (u * z0 - v * z1) 1 ∧ MEq q (u * z1 + v * z0) 0 → P (plV q 1 0 z0 z1) σ) :
   CallS S c (.old (.ref 406)) [plV q 1 0 u v] σ P := by
  by_cases vn : v = 0
  · have e := inv_v0 hp u0 u1 hN vn
    subst vn
    exact pl_inv0 hK hT hD hfz O hq hq1 hq2 u0 u1 hn (h _ _ (fm_lo _ hq) (fm_hi _ hq) (fm_lo _ hq) (fm_hi _ hq) (inv_v0' e))
  · exact pl_inv2 hK hT hD hfz O hq hq1 hq2 u0 u1 hn hp hN v0 v1 vn (pfi_rng hq v).1 (pfi_rng hq v).2 (pfi_ne hq1 hp v0 v1 vn) (pfi_hy hp v0 v1 vn) h
end

set_option linter.unusedSectionVars false
section
variable {S : Sx} (hK : S.K = hd.heap_39 S.w.params) (hT : (348, (⟨288, 28, 288, 80⟩ : Pos)) ∈ S.tabs) (hD : ∀ t ∈ S.tabs, t.1 = 348 → t.2 = (⟨288, 28, 288, 80⟩ : Pos))
variable {c : Cx} {σ : St} {n : Nat} {q u0 u1 u v : Int} {P : V → St → Prop} (hfz : c.fz = false) (O : Ok S c n)
  (hn : 150 ≤ n) (hq : 0 < q) (hq1 : 1 < q) (hq2 : q < 1000) (a0 : 0 ≤ u0) (a1 : u0 < q) (b0 : 0 ≤ u1) (b1 : u1 < q) (c0 : 0 ≤ u) (c1 : u < q) (d0 : 0 ≤ v) (d1 : v < q)
include hK hT hD hfz O hn hq hq1 hq2 a0 a1 b0 b1 c0 c1 d0 d1
theorem pl_one (h : P (plV q 1 0 (Int.fmod 1 q) (Int.fmod 0 q)) σ) :
   CallS S c (.old (.ref 439)) [plV q 1 0 u0 u1] σ P := by
  have O := O.mono hn
  wtm_at "syF9439"
  repeat wtm_at "sy"
  exact h
theorem pl_eqE (h : P (.bool (u0 == u && u1 == v)) σ) :
   CallS S c (.old (.ref 420)) [plV q 1 0 u0 u1, plV q 1 0 u v] σ P := by
  have O := O.mono hn
  wtm_at "syF9420"
  repeat wtm_at "sy"
  by_cases h1 : u0 = u
  · refine ite_neg (by simp [h1]) ?_
    repeat wtm_at "sy"
    by_cases h2 : u1 = v
    · refine ite_neg (by simp [h2]) ?_
      repeat wtm_at "sy"
      rw [h1, h2, beq_self_eq_true, beq_self_eq_true] at h
      exact h
    · refine ite_pos (by simp [h2]) ?_
      repeat wtm_at "sy"
      rw [beq_false_of_ne h2, Bool.and_false] at h
      exact h
  · refine ite_pos (by simp [h1]) ?_
    repeat wtm_at "sy"
    rw [beq_false_of_ne h1, Bool.false_and] at h
    exact h
theorem pl_divE (hq3 : q < 100) (hp : PfiOk q) (hN : ¬ MEq q (u * u + v * v) 0)
   (h : ∀ z0 z1, 0 ≤ z0 → z0 < q → 0 ≤ z1 → z1 < q → MEq q (u * z0 - v * z1) 1 ∧ MEq q (u * z1 + v * z0) 0 → P (plV q 1 0 (Int.fmod (u0 * z0 - u1 * z1 * 1) q) (Int.fmod (u0 * z1 + u1 * z0 - u1 * z1 * 0) q)) σ) :
   CallS S c (.old (.ref 394)) [plV q 1 0 u0 u1, plV q 1 0 u v] σ P := by
  have O := O.mono hn
  have o1 : (0 : Int) ≤ 1 := by decide
  have o0 : (0 : Int) ≤ 0 := by decide
  wtm_at "syF242"
  repeat wtm_at "sy"
  refine pl_invG hK hT hD ‹_› (by assumption) hq hq1 hq3 c0 c1 (by decide) hp hN d0 d1 fun z0 z1 e0 e1 e2 e3 hz => ?_
  have h := h z0 z1 e0 e1 e2 e3 hz
  repeat wtm_at "sy"
  exact h
end

end

section
local macro_rules | `(tactic| wtm_at "syK") => `(tactic| with_reducible exact (OpCls.m3 (by assumption)).hk)
local macro_rules | `(tactic| wtm_at "syK") => `(tactic| with_reducible exact (OpCls.m2 (by assumption)).hk)
local macro_rules | `(tactic| wtm_at "syK") => `(tactic| with_reducible exact (OpCls.m1 (by assumption)).hk)
local macro_rules | `(tactic| wtm_at "syA") => `(tactic| with_reducible exact OpCls.a5 (by assumption))
local macro_rules | `(tactic| wtm_at "syA") => `(tactic| with_reducible exact OpCls.a4 (by assumption))
local macro_rules | `(tactic| wtm_at "syA") => `(tactic| with_reducible exact OpCls.a3 (by assumption))
local macro_rules | `(tactic| wtm_at "syA") => `(tactic| with_reducible exact OpCls.a2 (by assumption))
local macro_rules | `(tactic| wtm_at "syA") => `(tactic| with_reducible exact OpCls.a1 (by assumption))
local macro_rules | `(tactic| wtm_at "syM") => `(tactic| with_reducible exact OpCls.m3 (by assumption))
local macro_rules | `(tactic| wtm_at "syM") => `(tactic| with_reducible exact OpCls.m2 (by assumption))
local macro_rules | `(tactic| wtm_at "syM") => `(tactic| with_reducible exact OpCls.m1 (by assumption))
local macro_rules | `(tactic| wtm_at "syO") => `(tactic| with_reducible exact OpCls.oc (by assumption))
local macro_rules | `(tactic| wtm_at "syI") => `(tactic| with_reducible exact OpCls.k2 (by assumption))
local macro_rules | `(tactic| wtm_at "syI") => `(tactic| with_reducible exact OpCls.k1 (by assumption))
local macro_rules | `(tactic| wtm_at "syBO") => `(tactic| with_reducible exact OpCls.b2 (by assumption))
local macro_rules | `(tactic| wtm_at "syBO") => `(tactic| with_reducible exact OpCls.b1 (by assumption))
local macro_rules | `(tactic| wtm_at "syBI") => `(tactic| with_reducible exact OpCls.b4 (by assumption))
local macro_rules | `(tactic| wtm_at "syBI") => `(tactic| with_reducible exact OpCls.b3 (by assumption))
local macro_rules | `(tactic| wtm_at "syCall") => `(tactic| ((with_reducible refine' call_made ?hM ?O ?hn ?hfz ?hfr ?hq ?hq2 ?hk ?_); (case hM => assumption); (case O => assumption); (case hn => first | exact Nat.le_of_ble_eq_true rfl | omega); (case hfz => assumption); (case hfr => assumption); (case hq => assumption); (case hq2 => assumption); (case hk => wtm_at "syHK")))
local macro_rules | `(tactic| wtm_at "syCall") => `(tactic| ((with_reducible refine' call_op451_ft ?hK ?hT ?hD ?O ?hn ?hfz ?hfr ?hq ?hq2 ?_); (case hK => assumption); (case hT => assumption); (case hD => assumption); (case O => assumption); (case hn => first | exact Nat.le_of_ble_eq_true rfl | omega); (case hfz => assumption); (case hfr => assumption); (case hq => assumption); (case hq2 => assumption)))
local macro_rules | `(tactic| wtm_at "syCall") => `(tactic| ((with_reducible refine' call_op422_ft ?hK ?hT ?hD ?O ?hn ?hfz ?hfr ?hq ?hq2 ?_); (case hK => assumption); (case hT => assumption); (case hD => assumption); (case O => assumption); (case hn => first | exact Nat.le_of_ble_eq_true rfl | omega); (case hfz => assumption); (case hfr => assumption); (case hq => assumption); (case hq2 => assumption)))
local macro_rules | `(tactic| wtm_at "syCall") => `(tactic| ((with_reducible refine' call_op451_lt ?hK ?hT ?hD ?O ?hn ?hfz ?hfr ?hq ?hq2 ?h1 ?_); (case hK => assumption); (case hT => assumption); (case hD => assumption); (case O => assumption); (case hn => first | exact Nat.le_of_ble_eq_true rfl | omega); (case hfz => assumption); (case hfr => assumption); (case hq => assumption); (case hq2 => assumption); (case h1 => wtm_at "syHK")))
local macro_rules | `(tactic| wtm_at "syCall") => `(tactic| ((with_reducible refine' call_op422_lt ?hK ?hT ?hD ?O ?hn ?hfz ?hfr ?hq ?hq2 ?h1 ?_); (case hK => assumption); (case hT => assumption); (case hD => assumption); (case O => assumption); (case hn => first | exact Nat.le_of_ble_eq_true rfl | omega); (case hfz => assumption); (case hfr => assumption); (case hq => assumption); (case hq2 => assumption); (case h1 => wtm_at "syHK")))
local macro_rules | `(tactic| wtm_at "syEv") => `(tactic| ((with_reducible show EvS _ _ _ (Expr.Call (Expr.Name (Str.ofString "list") _) [Expr.Call (Expr.Name (Str.ofString "enumerate") _) _ _ _] _ _) _ _); ((with_reducible refine' ev_listE ?O ?hfz ?he ?he2 ?hp ?hb ?hb2 ?hb3 ?_); (case O => assumption); (case hfz => assumption); (case he => rfl); (case he2 => rfl); (case hp => rfl); (case hb => rfl); (case hb2 => rfl); (case hb3 => rfl))))
local macro_rules | `(tactic| wtm_at "sy") => `(tactic| ((with_reducible show ∃ a b, [_] = [V.tup [a, b]] ∧ _); (refine ⟨_, _, rfl, ?_⟩)))
local macro_rules | `(tactic| wtm_at "sy") => `(tactic| ((with_reducible show V.old (Value.type _) = V.old (Value.type _) ∧ _); (refine And.intro rfl ?_)))
local macro_rules | `(tactic| wtm_at "sy") => `(tactic| ((with_reducible show drK _ _ _ _); first | ((with_reducible refine' dr_v ?hv ?hg ?_); (case hv => first | rfl | exact noLst_op); (case hg => rfl)) | ((with_reducible refine' dr_l ?hk ?hg ?hs ?hv ?_); (case hk => rfl); (case hg => rfl); (case hs => wtm_at "syHK"); (case hv => first | rfl | assumption))))

section

section
variable {S : Sx} {C fm : Addr} (hM : MadeOk S C fm) (OC : OpCls S.w.params C fm) (hK : S.K = hd.heap_39 S.w.params)
variable {c : Cx} {σ : St} {n : Nat} {q cc na u0 u1 v0 v1 : Int} {P : V → St → Prop} (hfz : c.fz = false) (O : Ok S c n)
  (hn : 100 ≤ n) (hq : 0 < q) (hq2 : q < 1000) (c0 : 0 ≤ cc) (c1 : cc < q) (n0 : 0 ≤ na) (n1 : na < q)
  (a0 : 0 ≤ u0) (a1 : u0 < q) (b0 : 0 ≤ u1) (b1 : u1 < q) (d0 : 0 ≤ v0) (d1 : v0 < q) (e0 : 0 ≤ v1) (e1 : v1 < q)
include hM OC hK hfz O hn hq hq2 c0 c1 n0 n1 a0 a1 b0 b1 d0 d1 e0 e1
theorem op_mul (h : P (opV C q cc na (Int.fmod (u0 * v0 - u1 * v1 * cc) q) (Int.fmod (u0 * v1 + u1 * v0 - u1 * v1 * na) q)) σ) :
   CallS S c (.old (.ref 81)) [opV C q cc na u0 u1, opV C q cc na v0 v1] σ P := by
  have O := O.mono hn
  have qne : q ≠ 0 := by omega
  wtm_at "syF342"
  repeat wtm_at "sy"
  refine lp_join [(Str.ofString "b", .lst (σ.ls.length + 1)), (Str.ofString "self", opV C q cc na u0 u1)] (σ.ls ++ [[V.int 0], [V.int (u0 * v0 - u1 * v1 * cc), V.int (u0 * v1 + u1 * v0 - u1 * v1 * na)]]) ?_ ?_
  · repeat wtm_at "sy"
    refine op_eq ?_ ?_ h
    all_goals wtm_at "meq"
  · have fin : ∀ (σ₁ : St) (x y : Int), σ₁.cv = [] → σ₁.ls = σ.ls ++ [[V.int 0], [V.int x, V.int y]] → x = u0 * v0 - u1 * v1 * cc → y = u0 * v1 + u1 * v0 - u1 * v1 * na → σ₁.loc.lookup (Str.ofString "b") = some (.lst (σ.ls.length + 1)) → σ₁.loc.lookup (Str.ofString "self") = some (opV C q cc na u0 u1) →
        Fl.next = Fl.next ∧ σ₁.cv = [] ∧ σ₁.ls = σ.ls ++ [[V.int 0], [V.int (u0 * v0 - u1 * v1 * cc), V.int (u0 * v1 + u1 * v0 - u1 * v1 * na)]] ∧ ∀ p ∈ [(Str.ofString "b", V.lst (σ.ls.length + 1)), (Str.ofString "self", opV C q cc na u0 u1)], σ₁.loc.lookup p.1 = some p.2 := fun σ₁ x y h1 h2 h3 h4 h5 h6 =>
      ⟨rfl, h1, by rw [h2, h3, h4], List.forall_mem_cons.mpr ⟨h5, List.forall_mem_cons.mpr ⟨h6, fun _ h => nomatch h⟩⟩⟩
    refine lp_mc (fun _ _ => ?_) (fun _ z => ?_) (fun z _ => ?_) (fun z z' => ?_)
    all_goals repeat wtm_at "sy"
    · exact fin _ _ _ rfl rfl rfl rfl rfl rfl
    · exact fin _ _ _ rfl rfl rfl (by rw [z]; simp) rfl rfl
    · exact fin _ _ _ rfl rfl (by rw [z]; simp) rfl rfl rfl
    · exact fin _ _ _ rfl rfl (by rw [z]; simp) (by rw [z']; simp) rfl rfl
end

section
variable {S : Sx} {C fm : Addr} (hM : MadeOk S C fm) (OC : OpCls S.w.params C fm) (hK : S.K = hd.heap_39 S.w.params)
variable {c : Cx} {σ : St} {n : Nat} {q cc na u0 u1 v0 v1 : Int} {P : V → St → Prop} (hfz : c.fz = false) (O : Ok S c n)
  (hn : 100 ≤ n) (hq : 0 < q) (hq2 : q < 1000)
  (a0 : 0 ≤ u0) (a1 : u0 < q) (b0 : 0 ≤ u1) (b1 : u1 < q)
include hM OC hK hfz O hn hq hq2 a0 a1 b0 b1
theorem op_div {d : Int} (d0 : -1000000 < d) (d1 : d < 1000000) (h : P (opV C q cc na (Int.fmod (u0 * pfi d q) q) (Int.fmod (u1 * pfi d q) q)) σ) :
   CallS S c (.old (.ref 93)) [opV C q cc na u0 u1, .int d] σ P := by
  have O := O.mono hn
  have qne : q ≠ 0 := by omega
  wtm_at "syF354"
  repeat wtm_at "sy"
  refine op_eq ?_ ?_ h
  all_goals wtm_at "meq"
end

section
variable {S : Sx} (hK : S.K = hd.heap_39 S.w.params) (hT : (49, (⟨40, 32, 40, 80⟩ : Pos)) ∈ S.tabs) (hD : ∀ t ∈ S.tabs, t.1 = 49 → t.2 = (⟨40, 32, 40, 80⟩ : Pos))
include hK hT hD
theorem made422 : MadeOk S 161 59 := ⟨fun c σ n q cc na u v u0 v0 k P hfz hfr O hn hq hq2 hk h => by
  have O := O.mono hn
  wtm_at "syF320"
  repeat wtm_at "sy"
  exact h⟩
theorem made451 : MadeOk S 190 179 := ⟨fun c σ n q cc na u v u0 v0 k P hfz hfr O hn hq hq2 hk h => by
  have O := O.mono hn
  wtm_at "syF440"
  repeat wtm_at "sy"
  exact h⟩
end

section
variable {S : Sx} {C fm : Addr} (OC : OpCls S.w.params C fm) (hK : S.K = hd.heap_39 S.w.params)
variable {c : Cx} {σ : St} {n : Nat} {P : V → St → Prop} {q cc na u v : Int} (hfz : c.fz = false) (O : Ok S c n)
include OC hK hfz O
theorem law_plain_op (hn : 60 ≤ n) (hq : 0 < q) (hq2 : q < 1000) (a0 : 0 ≤ u) (a1 : u < q) (b0 : 0 ≤ v) (b1 : v < q) (h : NewK σ [.int (Int.fmod u q), .int (Int.fmod v q)] P) :
   CallS S c (.old (.ref 479)) [opV C q cc na u v, .int q] σ P := by
  have O := O.mono hn
  have qne : q ≠ 0 := by omega
  wtm_at "syF479"
  repeat wtm_at "sy"
  exact h
end
section
variable {S : Sx} (hK : S.K = hd.heap_39 S.w.params) (hT : (49, (⟨40, 32, 40, 80⟩ : Pos)) ∈ S.tabs) (hD : ∀ t ∈ S.tabs, t.1 = 49 → t.2 = (⟨40, 32, 40, 80⟩ : Pos))
variable {c : Cx} {σ : St} {n : Nat} {P : V → St → Prop} {q u v : Int} {j : Nat} (hfz : c.fz = false) (O : Ok S c n)
include hK hT hD hfz O
theorem law_made_op1 (hn : 80 ≤ n) (hq : 0 < q) (hq2 : q < 1000) (hj : σ.ls[j]? = some [.int u, .int v]) (h : P (opV 161 q 1 0 (Int.fmod u q) (Int.fmod v q)) σ) :
   CallS S c (.old (.ref 474)) [.lst j, .int q, .int 1] σ P := by
  have O := O.mono hn
  have qne : q ≠ 0 := by omega
  wtm_at "syF474"
  repeat wtm_at "sy"
  exact h
theorem law_made_op2 (hn : 80 ≤ n) (hq : 0 < q) (hq2 : q < 1000) (hj : σ.ls[j]? = some [.int u, .int v]) (h : P (opV 190 q 1 0 (Int.fmod u q) (Int.fmod v q)) σ) :
   CallS S c (.old (.ref 474)) [.lst j, .int q, .int 2] σ P := by
  have O := O.mono hn
  have qne : q ≠ 0 := by omega
  wtm_at "syF474"
  repeat wtm_at "sy"
  exact h
theorem law_made_op1F (hn : 80 ≤ n) (hq : 0 < q) (hq2 : q < 1000) (h : P (opV 161 q 1 0 (Int.fmod u q) (Int.fmod v q)) σ) :
   CallS S c (.old (.ref 474)) [.flst [.int u, .int v], .int q, .int 1] σ P := by
  have O := O.mono hn
  have qne : q ≠ 0 := by omega
  wtm_at "syF474"
  repeat wtm_at "sy"
  exact h
theorem law_made_op2F (hn : 80 ≤ n) (hq : 0 < q) (hq2 : q < 1000) (h : P (opV 190 q 1 0 (Int.fmod u q) (Int.fmod v q)) σ) :
   CallS S c (.old (.ref 474)) [.flst [.int u, .int v], .int q, .int 2] σ P := by
  have O := O.mono hn
  have qne : q ≠ 0 := by omega
  wtm_at "syF474"
  repeat wtm_at "sy"
  exact h
end

section
variable {S : Sx} {C fm : Addr} (OC : OpCls S.w.params C fm) (hK : S.K = hd.heap_39 S.w.params)
variable {c : Cx} {σ : St} {n : Nat} {q cc na u v s t u0 u1 : Int} {P : V → St → Prop} (hfz : c.fz = false) (O : Ok S c n)
  (hn : 100 ≤ n) (hq : 0 < q) (hq1 : 1 < q) (hq2 : q < 1000)
include OC hK hfz O hn hq hq1 hq2
theorem op_rdvA {j k : Nat} (v0 : 0 ≤ v) (v1 : v < q) (w0 : 0 ≤ pfi v q) (w1 : pfi v q < q) (wn : pfi v q ≠ 0) (vn : v ≠ 0) (hj : σ.ls[j]? = some [.int 1, .int 0, .int 1]) (hk : σ.ls[k]? = some [.int u, .int v, .int 0]) (h : NewK σ [.int 0, .int (pfi v q)] P) :
   CallS S c (.old (.ref 105)) [opV C q cc na u0 u1, .lst j, .lst k] σ P := by
  have O := O.mono hn
  have qne : q ≠ 0 := by omega
  wtm_at "syF366"
  repeat wtm_at "sy"
  refine ite_neg (by simpa using vn) ?_
  repeat wtm_at "sy"
  refine ite_neg (by simpa using wn) ?_
  repeat wtm_at "sy"
  rw [fmO_self w0 w1]
  exact h
theorem op_rdvB {j k : Nat} (v0 : 0 ≤ v) (v1 : v < q) (x0 : 0 ≤ s) (x1 : s < q) (vn : v ≠ 0) (sn : s ≠ 0) (hj : σ.ls[j]? = some [.int u, .int v, .int 0]) (hk : σ.ls[k]? = some [.int t, .int s, .int 0]) (h : NewK σ [.int (Int.fmod (v * pfi s q) q)] P) :
   CallS S c (.old (.ref 105)) [opV C q cc na u0 u1, .lst j, .lst k] σ P := by
  have O := O.mono hn
  have qne : q ≠ 0 := by omega
  wtm_at "syF366"
  repeat wtm_at "sy"
  refine ite_neg (by simpa using vn) ?_
  repeat wtm_at "sy"
  refine ite_neg (by simpa using sn) ?_
  repeat wtm_at "sy"
  by_cases z : v * pfi s q = 0
  · refine ite_pos (by simpa using z) ?_
    repeat wtm_at "sy"
    exact h
  · refine ite_neg (by simpa using z) ?_
    repeat wtm_at "sy"
    exact h
end

end

section
local macro_rules | `(tactic| wtm_at "syCt") => `(tactic| ((with_reducible refine' op_mul ?hM ?OC ?hK ?hfz ?O ?hn ?hq ?hq2 ?c0 ?c1 ?n0 ?n1 ?a0 ?a1 ?b0 ?b1 ?d0 ?d1 ?e0 ?e1 ?_); (case hM => assumption); (case OC => assumption); (case hK => assumption); (case hfz => assumption); (case O => assumption); (case hn => first | exact Nat.le_of_ble_eq_true rfl | omega); (case hq => assumption); (case hq2 => assumption); (case c0 => assumption); (case c1 => assumption); (case n0 => assumption); (case n1 => assumption); (case a0 => wtm_at "syB0"); (case a1 => wtm_at "syB0"); (case b0 => wtm_at "syB0"); (case b1 => wtm_at "syB0"); (case d0 => wtm_at "syB0"); (case d1 => wtm_at "syB0"); (case e0 => wtm_at "syB0"); (case e1 => wtm_at "syB0")))
def mulO (q cc na : Int) (x y : Int × Int) : Int × Int := (Int.fmod (x.1 * y.1 - x.2 * y.2 * cc) q, Int.fmod (x.1 * y.2 + x.2 * y.1 - x.2 * y.2 * na) q)
theorem mulO_in {q : Int} (hq : 0 < q) (cc na : Int) (x y : Int × Int) : (0 ≤ (mulO q cc na x y).1 ∧ (mulO q cc na x y).1 < q) ∧ (0 ≤ (mulO q cc na x y).2 ∧ (mulO q cc na x y).2 < q) := ⟨⟨fm_lo _ hq, fm_hi _ hq⟩, fm_lo _ hq, fm_hi _ hq⟩
def powO (q cc na : Int) : Nat → Nat → Int × Int → Int × Int → Int × Int
  | 0, _, o, _ => o
  | f + 1, e, o, t => if e = 0 then o else powO q cc na f (e / 2) (if e % 2 = 1 then mulO q cc na o t else o) (mulO q cc na t t)
def InP (q : Int) (x : Int × Int) : Prop := (0 ≤ x.1 ∧ x.1 < q) ∧ (0 ≤ x.2 ∧ x.2 < q)
theorem powO_in {q cc na : Int} (hq : 0 < q) : ∀ (f e : Nat) (o t : Int × Int), InP q o → InP q (powO q cc na f e o t)
  | 0, _, _, _, h => h
  | f + 1, e, o, t, h => by
    unfold powO
    split
    · exact h
    · refine powO_in hq f _ _ _ ?_
      split
      · exact mulO_in hq cc na o t
      · exact h
section
variable {S : Sx} {C fm : Addr} (hM : MadeOk S C fm) (OC : OpCls S.w.params C fm) (hK : S.K = hd.heap_39 S.w.params)
variable {c : Cx} {σ : St} {n : Nat} {q cc na u0 u1 : Int} {P : V → St → Prop} (hfz : c.fz = false) (O : Ok S c n)
  (hn : 120 ≤ n) (hq : 0 < q) (hq2 : q < 1000) (c0 : 0 ≤ cc) (c1 : cc < q) (n0 : 0 ≤ na) (n1 : na < q)
  (a0 : 0 ≤ u0) (a1 : u0 < q) (b0 : 0 ≤ u1) (b1 : u1 < q)
include hM OC hK hfz O hn hq hq2 c0 c1 n0 n1 a0 a1 b0 b1
theorem op_pow {k : Nat} {e : Int} (he : e = k) (hk : k < 1000) (h : P (opV C q cc na (powO q cc na (k + 1) k (Int.fmod 1 q, Int.fmod 0 q) (u0, u1)).1 (powO q cc na (k + 1) k (Int.fmod 1 q, Int.fmod 0 q) (u0, u1)).2) σ) :
   CallS S c (.old (.ref 100)) [opV C q cc na u0 u1, .int e] σ P := by
  have O := O.mono hn
  have qne : q ≠ 0 := by omega
  subst he
  have hM2 : (Int.fmod 1 q, Int.fmod 0 q) = (Int.fmod 1 q, (0 : Int)) := by rw [Int.zero_fmod]
  rw [hM2] at h
  wtm_at "syF361"
  repeat ((fail_if_success (with_reducible show WhS _ _ _ _ _ _)); wtm_at "sy")
  rename_i c1 E1 Z1 F1 L1 O1
  refine wh_inv (J := fun k' σ' => ∃ (f : Nat) (o0 o1 t0 t1 : Int) (L : List (Str × V)), k' < f ∧ k' ≤ k ∧ powO q cc na f k' (o0, o1) (t0, t1) = powO q cc na (k + 1) k (Int.fmod 1 q, 0) (u0, u1) ∧ (0 ≤ o0 ∧ o0 < q) ∧ (0 ≤ o1 ∧ o1 < q) ∧ (0 ≤ t0 ∧ t0 < q) ∧ (0 ≤ t1 ∧ t1 < q) ∧ σ' = ⟨L, [], σ.ls ++ [[V.int 1], [V.int 0], [V.int 0], [V.int 1, V.int 0]]⟩ ∧
    L.lookup (Str.ofString "o") = some (opV C q cc na o0 o1) ∧ L.lookup (Str.ofString "t") = some (opV C q cc na t0 t1) ∧ L.lookup (Str.ofString "other") = some (.int (k' : Int))) ?_ k _ ⟨k + 1, _, _, _, _, _, Nat.lt_succ_self k, Nat.le_refl k, rfl, ⟨fm_lo _ hq, fm_hi _ hq⟩, ⟨Int.le_refl 0, hq⟩, ⟨a0, a1⟩, ⟨b0, b1⟩, rfl, rfl, rfl, rfl⟩
  rintro k' σ' ⟨f, o0, o1, t0, t1, L, hf, hk', hR, ⟨oa, ob⟩, ⟨oc, od⟩, ⟨ta, tb⟩, ⟨tc, td⟩, rfl, ho, ht, hot⟩
  repeat wtm_at "sy"
  by_cases k0 : k' = 0
  · refine ite_neg (by simp [k0]) ?_
    subst k0
    have hR' : powO q cc na (k + 1) k (Int.fmod 1 q, 0) (u0, u1) = (o0, o1) := by
      rw [← hR]
      cases f with
      | zero => rfl
      | succ f => rw [powO, if_pos rfl]
    rw [hR'] at h
    repeat wtm_at "sy"
    exact h
  · refine ite_pos (by simp; omega) ?_
    obtain ⟨f, rfl⟩ : ∃ f', f = f' + 1 := ⟨f - 1, by omega⟩
    rw [powO, if_neg k0] at hR
    have hsh : Int.fdiv (k' : Int) (2 ^ (1 : Int).toNat) = ((k' / 2 : Nat) : Int) := by
      rw [Int.fdiv_eq_ediv_of_nonneg _ (by decide)]; rfl
    have hba : Builtin.bitAnd (k' : Int) 1 = ((k' % 2 : Nat) : Int) := by
      show ((((k' : Int).toNat &&& (1 : Int).toNat : Nat)) : Int) = _
      rw [Int.toNat_natCast]
      show ((k' &&& 1 : Nat) : Int) = _
      rw [Nat.and_one_is_mod]
    repeat wtm_at "sy"
    rw [hba]
    by_cases k2 : k' % 2 = 1
    · refine ite_pos (by rw [k2]; rfl) ?_
      rw [if_pos k2] at hR
      repeat wtm_at "sy"
      refine ⟨rfl, k' / 2, by omega, f, _, _, _, _, _, by omega, by omega, hR, ⟨fm_lo _ hq, fm_hi _ hq⟩, ⟨fm_lo _ hq, fm_hi _ hq⟩, ⟨fm_lo _ hq, fm_hi _ hq⟩, ⟨fm_lo _ hq, fm_hi _ hq⟩, rfl, rfl, rfl, ?_⟩
      exact congrArg (fun z => some (V.int z)) hsh
    · refine ite_neg (by simp; omega) ?_
      rw [if_neg k2] at hR
      repeat wtm_at "sy"
      refine ⟨rfl, k' / 2, by omega, f, o0, o1, _, _, _, by omega, by omega, hR, ⟨oa, ob⟩, ⟨oc, od⟩, ⟨fm_lo _ hq, fm_hi _ hq⟩, ⟨fm_lo _ hq, fm_hi _ hq⟩, rfl, ho, rfl, ?_⟩
      exact congrArg (fun z => some (V.int z)) hsh
end

end

section
local macro_rules | `(tactic| wtm_at "syCt") => `(tactic| ((with_reducible refine' op_div ?hM ?OC ?hK ?hfz ?O ?hn ?hq ?hq2 ?a0 ?a1 ?b0 ?b1 ?d0 ?d1 ?_); (case hM => assumption); (case OC => assumption); (case hK => assumption); (case hfz => assumption); (case O => assumption); (case hn => first | exact Nat.le_of_ble_eq_true rfl | omega); (case hq => assumption); (case hq2 => assumption); (case a0 => wtm_at "syB0"); (case a1 => wtm_at "syB0"); (case b0 => wtm_at "syB0"); (case b1 => wtm_at "syB0"); (case d0 => wtm_at "syB0"); (case d1 => wtm_at "syB0")))
section
variable {S : Sx} {C fm : Addr} (hM : MadeOk S C fm) (OC : OpCls S.w.params C fm) (hK : S.K = hd.heap_39 S.w.params)
variable {c : Cx} {σ : St} {n : Nat} {q u v : Int} {P : V → St → Prop} (hfz : c.fz = false) (O : Ok S c n)
  (hn : 120 ≤ n) (hq : 0 < q) (hq1 : 1 < q) (hq2 : q < 1000) (u0 : 0 ≤ u) (u1 : u < q)
include hM OC hK hfz O hn hq hq1 hq2 u0 u1
theorem op_inv0 (h : P (opV C q 1 0 (Int.fmod (1 * pfi u q) q) (Int.fmod (0 * pfi u q) q)) σ) :
   CallS S c (.old (.ref 110)) [opV C q 1 0 u 0] σ P := by
  have O := O.mono hn
  have qne : q ≠ 0 := by omega
  have m10 : mcI 1 0 = [(0, 1)] := by decide
  have hj2 : True := trivial
  wtm_at "syF371"
  repeat wtm_at "sy"
  by_cases un : u = 0
  · refine ite_pos (by simpa using un) ?_
    repeat wtm_at "sy"
    refine op_eq ?_ ?_ h
    all_goals wtm_at "meq"
  · refine ite_neg (by simpa using un) ?_
    repeat wtm_at "sy"
    refine op_eq ?_ ?_ h
    all_goals wtm_at "meq"
theorem op_inv2 (hp : PfiOk q) (hN : ¬ MEq q (u * u + v * v) 0) (v0 : 0 ≤ v) (v1 : v < q) (vn : v ≠ 0) (w0 : 0 ≤ pfi v q) (w1 : pfi v q < q) (wn : pfi v q ≠ 0) (hy : Int.fmod (1 - v * pfi v q) q = 0)
   (h : ∀ z0 z1, 0 ≤ z0 → z0 < q → 0 ≤ z1 → z1 < q → MEq q (u * z0 - v * z1) 1 ∧ MEq q (u * z1 + v * z0) 0 → P (opV C q 1 0 z0 z1) σ) :
   CallS S c (.old (.ref 110)) [opV C q 1 0 u v] σ P := by
  have O := O.mono hn
  have qne : q ≠ 0 := by omega
  wtm_at "syF371"
  repeat wtm_at "sy"
  refine ite_neg (by simpa using vn) ?_
  repeat wtm_at "sy"
  refine op_rdvA (u := u) OC hK ‹_› ‹_› (by omega) hq hq1 hq2 v0 v1 w0 w1 wn vn ?hj ?hk ?_
  case hj => wtm_at "syHK"
  case hk => wtm_at "syHK"
  repeat wtm_at "sy"
  rw [hy]
  repeat wtm_at "sy"
  have s0 := fm_lo (0 - u * pfi v q) hq
  have s1 := fm_hi (0 - u * pfi v q) hq
  generalize hs : Int.fmod (0 - u * pfi v q) q = s at *
  have g0 := fm_lo (0 - pfi v q) hq
  have g1 := fm_hi (0 - pfi v q) hq
  generalize hg : Int.fmod (0 - pfi v q) q = g at *
  have e1 : Int.fmod 1 q = 1 := fmO_self (by decide) hq1
  rw [e1]
  by_cases sn : s = 0
  · refine ite_pos (by simpa using sn) ?_
    have fin := inv_s0 (u := u) (g := g) hp v0 v1 vn hs.symm hg.symm sn
    subst sn
    repeat wtm_at "sy"
    refine h _ _ (fm_lo _ hq) (fm_hi _ hq) (fm_lo _ hq) (fm_hi _ hq) (inv_res ?_ ?_ fin)
    · exact MEq.fmr.trans (((MEq.fmr (q := q) (a := 0)).mul (pfi1 hq1 hp)).trans (by rw [Int.mul_one]; exact .rfl'))
    · exact MEq.fmr.trans (((MEq.fmr (q := q) (a := g)).mul (pfi1 hq1 hp)).trans (by rw [Int.mul_one]; exact .rfl'))
  · refine ite_neg (by simpa using sn) ?_
    repeat wtm_at "sy"
    refine op_rdvB (u := u) (t := 1) OC hK ‹_› ‹_› (by omega) hq hq1 hq2 v0 v1 s0 s1 vn sn ?hj ?hk ?_
    case hj => wtm_at "syHK"
    case hk => wtm_at "syHK"
    have t0 := fm_lo (v * pfi s q) hq
    have t1 := fm_hi (v * pfi s q) hq
    generalize ht : Int.fmod (v * pfi s q) q = t at *
    have hst := inv_st hq1 hp u0 u1 hN v0 v1 vn hs.symm hg.symm ht s0 s1 sn
    have hD := inv_D hq1 hp u0 u1 hN v0 v1 vn hs.symm hg.symm ht s0 s1 sn
    have fin := fun x y => inv_fin (x := x) (y := y) hq1 hp u0 u1 hN v0 v1 vn hs.symm hg.symm ht s0 s1 sn
    repeat wtm_at "sy"
    refine ite_pos (by simpa using hst) ?_
    repeat wtm_at "sy"
    refine ite_neg (by simpa using hD) ?_
    have D0 : -1000000 < Int.fmod (u - t) q := by have := fm_lo (u - t) hq; omega
    have D1 : Int.fmod (u - t) q < 1000000 := by have := fm_hi (u - t) hq; omega
    repeat wtm_at "sy"
    refine h _ _ (fm_lo _ hq) (fm_hi _ hq) (fm_lo _ hq) (fm_hi _ hq) (fin _ _ ?_ ?_)
    · rw [e1]; exact MEq.fmr.trans (MEq.fmr.mul .rfl')
    · exact MEq.fmr.trans ((MEq.fmr.trans MEq.fmr).mul .rfl')
theorem op_invG (hp : PfiOk q) (hN : ¬ MEq q (u * u + v * v) 0) (v0 : 0 ≤ v) (v1 : v < q)
   (h : ∀ z0 z1, 0 ≤ z0 → z0 < q → 0 ≤ z1 → z1 < q → MEq q (u * z0 - v * z1) 1 ∧ MEq q (u * z1 + v * z0) 0 → P (opV C q 1 0 z0 z1) σ) :
   CallS S c (.old (.ref 110)) [opV C q 1 0 u v] σ P := by
  by_cases vn : v = 0
  · have e := inv_v0 hp u0 u1 hN vn
    subst vn
    exact op_inv0 hM OC hK hfz O hn hq hq1 hq2 u0 u1 (h _ _ (fm_lo _ hq) (fm_hi _ hq) (fm_lo _ hq) (fm_hi _ hq) (inv_v0' e))
  · exact op_inv2 hM OC hK hfz O hn hq hq1 hq2 u0 u1 hp hN v0 v1 vn (pfi_rng hq v).1 (pfi_rng hq v).2 (pfi_ne hq1 hp v0 v1 vn) (pfi_hy hp v0 v1 vn) h
end

end

section
local macro_rules | `(tactic| wtm_at "syCt") => `(tactic| ((with_reducible refine' op_mul ?hM ?OC ?hK ?hfz ?O ?hn ?hq ?hq2 ?c0 ?c1 ?n0 ?n1 ?a0 ?a1 ?b0 ?b1 ?d0 ?d1 ?e0 ?e1 ?_); (case hM => assumption); (case OC => assumption); (case hK => assumption); (case hfz => assumption); (case O => assumption); (case hn => first | exact Nat.le_of_ble_eq_true rfl | omega); (case hq => assumption); (case hq2 => assumption); (case c0 => assumption); (case c1 => assumption); (case n0 => assumption); (case n1 => assumption); (case a0 => wtm_at "syB0"); (case a1 => wtm_at "syB0"); (case b0 => wtm_at "syB0"); (case b1 => wtm_at "syB0"); (case d0 => wtm_at "syB0"); (case d1 => wtm_at "syB0"); (case e0 => wtm_at "syB0"); (case e1 => wtm_at "syB0")))
local macro_rules | `(tactic| wtm_at "syCt") => `(tactic| ((with_reducible refine' op_invG ?hM ?OC ?hK ?hfz ?O ?hn ?hq ?hq1 ?hq2 ?u0 ?u1 ?hp ?hN ?v0 ?v1 ?_); (case hM => assumption); (case OC => assumption); (case hK => assumption); (case hfz => assumption); (case O => assumption); (case hn => first | exact Nat.le_of_ble_eq_true rfl | omega); (case hq => assumption); (case hq1 => assumption); (case hq2 => assumption); (case u0 => wtm_at "syB0"); (case u1 => wtm_at "syB0"); (case hp => assumption); (case hN => assumption); (case v0 => wtm_at "syB0"); (case v1 => wtm_at "syB0")))
set_option linter.unusedSectionVars false
section
variable {S : Sx} {C fm : Addr} (hM : MadeOk S C fm) (OC : OpCls S.w.params C fm) (hK : S.K = hd.heap_39 S.w.params)
variable {c : Cx} {σ : St} {n : Nat} {q u0 u1 u v : Int} {P : V → St → Prop} (hfz : c.fz = false) (O : Ok S c n)
  (hn : 150 ≤ n) (hq : 0 < q) (hq1 : 1 < q) (hq2 : q < 1000) (a0 : 0 ≤ u0) (a1 : u0 < q) (b0 : 0 ≤ u1) (b1 : u1 < q) (c0 : 0 ≤ u) (c1 : u < q) (d0 : 0 ≤ v) (d1 : v < q)
include hM OC hK hfz O hn hq hq1 hq2 a0 a1 b0 b1 c0 c1 d0 d1
theorem op_divE (hp : PfiOk q) (hN : ¬ MEq q (u * u + v * v) 0)
   (h : ∀ z0 z1, 0 ≤ z0 → z0 < q → 0 ≤ z1 → z1 < q → MEq q (u * z0 - v * z1) 1 ∧ MEq q (u * z1 + v * z0) 0 → P (opV C q 1 0 (Int.fmod (u0 * z0 - u1 * z1 * 1) q) (Int.fmod (u0 * z1 + u1 * z0 - u1 * z1 * 0) q)) σ) :
   CallS S c (.old (.ref 93)) [opV C q 1 0 u0 u1, opV C q 1 0 u v] σ P := by
  have O := O.mono hn
  have qne : q ≠ 0 := by omega
  wtm_at "syF354"
  repeat wtm_at "sy"
  intro z0 z1 e0 e1 e2 e3 hz
  have h := h z0 z1 e0 e1 e2 e3 hz
  have o1 : (0 : Int) ≤ 1 := by decide
  have o0 : (0 : Int) ≤ 0 := by decide
  repeat wtm_at "sy"
  exact h
theorem op_eqE (h : P (.bool (u0 == u && u1 == v)) σ) :
   CallS S c (.old (.ref 124)) [opV C q 1 0 u0 u1, opV C q 1 0 u v] σ P := by
  have O := O.mono hn
  have qne : q ≠ 0 := by omega
  wtm_at "syF9124"
  repeat wtm_at "sy"
  by_cases h1 : u0 = u
  · refine ite_neg (by simp [h1]) ?_
    repeat wtm_at "sy"
    by_cases h2 : u1 = v
    · refine ite_neg (by simp [h2]) ?_
      repeat wtm_at "sy"
      rw [h1, h2, beq_self_eq_true, beq_self_eq_true] at h
      exact h
    · refine ite_pos (by simp [h2]) ?_
      repeat wtm_at "sy"
      rw [beq_false_of_ne h2, Bool.and_false] at h
      exact h
  · refine ite_pos (by simp [h1]) ?_
    repeat wtm_at "sy"
    rw [beq_false_of_ne h1, Bool.false_and] at h
    exact h
theorem op_one (h : P (opV C q 1 0 (Int.fmod 1 q) (Int.fmod 0 q)) σ) :
   CallS S c (.old (.ref 151)) [opV C q 1 0 u0 u1] σ P := by
  have O := O.mono hn
  have qne : q ≠ 0 := by omega
  wtm_at "syF9151"
  repeat wtm_at "sy"
  exact h
end

end

end
end

section

open PyProof.Rows.LCg
abbrev hid (h : Heap) : Heap := hideAll h [348, 49]
structure TabsIn (h : Heap) : Prop where
  a : h.get? 348 = some tb0
  b : h.get? 49 = some tb0
section
variable {h h' : Heap} {L : Addr} {m mg mb : Str → Option Value} {p : Program} {loose : List Str} {mean : ExcName → Option Value} {news : List (Addr × Obj)}
theorem hid_get {b : Addr} {o : Obj} (t : TabsIn h) (e : h.get? b = some o) (hn : o ≠ tb0) : (hid h).get? b = some o :=
  hideAll_get _ e fun q => by
    rcases List.mem_cons.mp q with rfl | q
    · exact hn (Option.some.inj (e.symm.trans t.a))
    · cases List.mem_singleton.mp q; exact hn (Option.some.inj (e.symm.trans t.b))
theorem hid_ns {a : Addr} {mm : Str → Option Value} (t : TabsIn h) (x : h.Ns a mm) : (hid h).Ns a mm :=
  let ⟨o, es, ep, e, hd, r⟩ := x; ⟨o, es, ep, hid_get t e (fun q => by rw [q] at hd; cases hd), hd, r⟩
theorem hid_list {a : Addr} {its : Array Value} (t : TabsIn h) (x : h.IsList a its) : (hid h).IsList a its := by
  obtain ⟨o, e, hc, r⟩ := x
  exact ⟨o, hid_get t e (fun q => by rw [q] at hc; cases hc), hc, r⟩
theorem hid_top (t : TabsIn h) (T : Top p loose mean mg mb h) : TopRead p loose mg mb (hid h) :=
  ⟨hid_ns t T.g, hid_ns t T.b, (let ⟨mc, a, r⟩ := T.nolimit; ⟨mc, hid_ns t a, r⟩), T.builtins, T.free⟩
theorem hid_bmod {bm : Addr} {ob : Obj} (t : TabsIn h) (M : BMod h mainGlobals mg bm ob) : BMod (hid h) mainGlobals mg bm ob :=
  ⟨hid_ns t M.ns, M.name, M.ne, hid_get t M.obj (fun q => by have := M.cls; rw [q] at this; cases this), M.cls, M.dict, M.data⟩
theorem hid_fr (F : Fr h L h' m) : Fr (hid h) L h' m := ⟨F.ns, fun b o e => F.keep b o (of_hideAll _ e), Nat.le_trans (Nat.le_of_eq (hideAll_size _ _)) F.above⟩
theorem hid_none {b : Addr} (e : h.get? b = none) : (hid h).get? b = none := by
  cases q : (hid h).get? b with
  | none => rfl
  | some o => rw [of_hideAll _ q] at e; cases e
theorem tabs_of {P : Params} (X : (K2 hd.heap_39 P).In h) : TabsIn h := ⟨X 348 _ rfl, X 49 _ rfl⟩
theorem k_of {P : Params} (X : (K2 hd.heap_39 P).In h) : (hd.heap_39 P).In (hid h) := fun a o e => by
  have n1 : (hd.heap_39 P).lookup 348 = none := by kernel_rfl
  have n2 : (hd.heap_39 P).lookup 49 = none := by kernel_rfl
  have a1 : a ≠ 348 := fun q => by rw [q, n1] at e; cases e
  have a2 : a ≠ 49 := fun q => by rw [q, n2] at e; cases e
  refine hideAll_get _ (X a o ?_) fun q => ?_
  · show List.lookup a ((348, tb0) :: (49, tb0) :: hd.heap_39 P) = some o
    rw [List.lookup_cons, beq_eq_false_iff_ne.mpr a1, List.lookup_cons, beq_eq_false_iff_ne.mpr a2]
    exact e
  · rcases List.mem_cons.mp q with q | q
    · exact a1 q
    · exact a2 (List.mem_singleton.mp q)
end
abbrev tabsL : List (Addr × Pos) := [(348, ⟨288, 28, 288, 80⟩), (49, ⟨40, 32, 40, 80⟩)]
theorem law_start {prog : Program} {w : World} {p : Program} {loose : List Str} {mean : ExcName → Option Value} {mg mb : Str → Option Value} {s₁ : Shared} {bm : Addr} {ob : Obj} {sa : Addr} {sv : List Value} {E : Env} {h₁ : Heap} {tk₁ : Nat} {m : Str → Option Value} {L : Addr} {cs : List (Addr × Obj)} {body : List Stmt} {Q : Flow → Shared → Prop} {E' : Value → Shared → Prop}
    (T : Top p loose mean mg mb s₁.heap) (KX : (K2 hd.heap_39 w.params).In s₁.heap) (M : BMod s₁.heap mainGlobals mg bm ob) (hg : s₁.gens = #[]) (hL : s₁.heap.IsList sa sv.toArray)
    (F : Fr s₁.heap L h₁ m) (N0 : News s₁.heap L h₁ cs) (hce : ∀ x ∈ E.cells, ∃ o v, (x.2, o) ∈ cs ∧ o.data = .cell v) (hnd : (E.cells.map (·.2)).Nodup)
    (hf : E.frame = some L) (hke : E.scope.kind = .function) (hl : E.locals = L) (hgl : E.globals = mainGlobals) (hb : E.builtins = builtinsNs)
    (hsc : m (Str.ofString "script") = some (.ref sa)) (hsn : E.cells.lookup (Str.ofString "script") = none) (hz : L = s₁.heap.objs.size)
    (main : ∀ (S : Sx) (c : Cx), S.prog = prog → S.w = w → S.K = hd.heap_39 S.w.params → S.sa = sa → S.sv = sv → S.tabs = tabsL → c.fenv = E → c.fz = false → c.frz = [] → c.el = false → Ok S c 450 → BlS S c body ⟨[(Str.ofString "script", .old (.ref sa))], [], []⟩ fun fl _ => fl = .ret (.bool true))
    (fin : ∀ s', (∀ b o, b ≠ 348 → b ≠ 49 → s₁.heap.get? b = some o → s'.heap.get? b = some o) → (∃ ps, s'.heap.get? 348 = some (tabO ps)) → (∃ ps, s'.heap.get? 49 = some (tabO ps)) → s'.os = s₁.os → AllBare s'.gens → Q (.ret (.bool true)) s') :
    wpAny (model prog w) (callerA.deeper E) (execs body E) Q E' ⟨h₁, s₁.gens, s₁.drawn, tk₁, s₁.os⟩ := by
  have t := tabs_of KX
  let S : Sx := ⟨prog, w, hd.heap_39 w.params, p, loose, mg, mb, mg, bm, ob, tabsL, sa, sv⟩
  let c : Cx := ⟨callerA.deeper E, callerA, hid s₁.heap, hid s₁.heap, [], E, L, 0, false, [], s₁.os, s₁.gens, s₁.drawn, false, m⟩
  have O : Ok S c 450 := ⟨below_caller _, k_of KX, hid_top t T, hid_bmod t M, rfl, hf, hke, rfl, by show (callerA.deeper E).depth + 450 < recursionLimit; simp only [depth_deeper, depth_caller]; decide, by
    have := cLine_is
    show (callerA.deeper E).units + 20 * 450 < cLine
    simp only [units_deeper, Around.mark_units, units_caller]; omega, hl, hgl, hb, hnd, hid_list t hL⟩
  have l1 : (348 : Nat) < s₁.heap.objs.size := Heap.lt_size t.a
  have l2 : (49 : Nat) < s₁.heap.objs.size := Heap.lt_size t.b
  have n0 : L ≠ 348 := fun e => by rw [hz] at e; rw [e] at l1; exact Nat.lt_irrefl _ l1
  have n1 : L ≠ 49 := fun e => by rw [hz] at e; rw [e] at l2; exact Nat.lt_irrefl _ l2
  have r : R S c ⟨[(Str.ofString "script", .old (.ref sa))], [], []⟩ ⟨cs ++ [(348, tb0), (49, tb0)], []⟩ m ⟨h₁, s₁.gens, s₁.drawn, tk₁, s₁.os⟩ := by
    refine ⟨hid_fr F, fun q hq => ?_, fun x v e => ?_, fun x hx => ?_, fun _ _ => rfl, fun x v e => (by cases e), fun k vs e => (by simp at e), rfl, by simp, fun q hq => (by cases hq), fun _ q hq => (by cases hq), fun _ q hq => (by cases hq), fun h => (by cases h), fun h => (by cases h), fun _ tt ht => ?_, fun _ => (by rw [hg]; intro y hy; simp at hy), rfl⟩
    · rcases List.mem_append.mp hq with hq | hq
      · exact ⟨(N0 _ hq).1, (N0 _ hq).2.1, hid_none (N0 _ hq).2.2⟩
      rcases List.mem_cons.mp hq with rfl | hq
      · exact ⟨F.keep _ _ t.a, Ne.symm n0, hideAll_none _ (by simp)⟩
      cases List.mem_singleton.mp hq
      exact ⟨F.keep _ _ t.b, Ne.symm n1, hideAll_none _ (by simp)⟩
    · rw [List.lookup_cons] at e
      by_cases hx : (x == Str.ofString "script") = true
      · rw [hx] at e
        cases e
        cases beq_iff_eq.mp hx
        refine ⟨_, .old, ?_⟩
        show match E.cells.lookup (Str.ofString "script") with
          | none => m _ = some _
          | some a => _
        rw [hsn]
        exact hsc
      · rw [Bool.eq_false_iff.mpr hx] at e
        cases e
    · obtain ⟨o, v, h1, h2⟩ := hce x hx
      exact ⟨o, v, List.mem_append_left _ h1, h2⟩
    · rcases List.mem_cons.mp ht with rfl | ht
      · exact ⟨#[], List.mem_append_right _ (.head _), .inl rfl⟩
      cases List.mem_singleton.mp ht
      exact ⟨#[], List.mem_append_right _ (.tail _ (.head _)), .inl rfl⟩
  refine wpAny_mono (main S c rfl rfl rfl rfl rfl rfl rfl rfl rfl rfl O _ _ _ _ r fun fl b σ' W' m' s' hp r' l e => ?_) (fun _ _ z => z) (fun _ _ z => z.elim)
  subst hp
  obtain ⟨x, rfl, hx⟩ := e
  cases hx
  refine fin s' (fun b o h1 h2 e => r'.F.keep b o (hideAll_get _ e (by simp; exact ⟨h1, h2⟩))) ?_ ?_ r'.os (r'.gens rfl)
  · obtain ⟨ps, h1, _⟩ := r'.tabs rfl _ (.head _)
    exact ⟨ps, (r'.N _ h1).1⟩
  · obtain ⟨ps, h1, _⟩ := r'.tabs rfl _ (.tail _ (.head _))
    exact ⟨ps, (r'.N _ h1).1⟩

end

section

open PyProof.Rows.LCg
theorem mem_tabs (S : Sx) (h : S.tabs = tabsL) : (348, (⟨288, 28, 288, 80⟩ : Pos)) ∈ S.tabs ∧ (∀ t ∈ S.tabs, t.1 = 348 → t.2 = (⟨288, 28, 288, 80⟩ : Pos)) ∧ (49, (⟨40, 32, 40, 80⟩ : Pos)) ∈ S.tabs ∧ (∀ t ∈ S.tabs, t.1 = 49 → t.2 = (⟨40, 32, 40, 80⟩ : Pos)) := by
  rw [h]
  refine ⟨.head _, fun t ht e => ?_, .tail _ (.head _), fun t ht e => ?_⟩
  · rcases List.mem_cons.mp ht with rfl | ht
    · rfl
    · cases List.mem_singleton.mp ht; exact absurd e (by decide)
  · rcases List.mem_cons.mp ht with rfl | ht
    · exact absurd e (by decide)
    · cases List.mem_singleton.mp ht; rfl

theorem mulP_cp (q cc na : Int) (x y : Int × Int) : CP q (mulP q cc na x y) (mulE cc na x y) := ⟨.fmr, .fmr⟩
theorem mulO_cp (q cc na : Int) (x y : Int × Int) : CP q (mulO q cc na x y) (mulE cc na x y) := ⟨.fmr, .fmr⟩
theorem powF_cp (q cc na : Int) : ∀ (f k : Nat) (x : Int × Int), k ≤ f → CP q (powF q cc na f k x) (powE cc na k x)
  | 0, k, x, h => by
    have : k = 0 := by omega
    subst this
    exact CP.fm (q := q) (x := (1, 0))
  | f + 1, k, x, h => by
    unfold powF
    by_cases h0 : k = 0
    · rw [if_pos h0, h0]; exact CP.fm (q := q) (x := (1, 0))
    · rw [if_neg h0]
      by_cases h1 : k = 1
      · rw [if_pos h1, h1, powE, powE, mulE_one]; exact CP.fm
      · rw [if_neg h1]
        have e : CP q (powE cc na (k / 2) (mulP q cc na x x)) (powE cc na (k / 2 + k / 2) x) := by
          rw [← powE_sq]; exact (mulP_cp q cc na x x).pow _
        by_cases h2 : k % 2 = 0
        · rw [if_pos h2]
          have := (powF_cp q cc na f (k / 2) (mulP q cc na x x) (by omega)).trans e
          rwa [show k / 2 + k / 2 = k by omega] at this
        · rw [if_neg h2]
          have := (powF_cp q cc na f (k / 2) (mulP q cc na x x) (by omega)).trans e
          have g := (mulP_cp q cc na (powF q cc na f (k / 2) (mulP q cc na x x)) x).trans (this.mul (.refl x))
          rw [show k = (k / 2 + k / 2) + 1 by omega, powE]
          rwa [show (k / 2 + k / 2 + 1) / 2 = k / 2 by omega]
theorem powO_cp (q cc na : Int) : ∀ (f e : Nat) (o t x y : Int × Int), e < f → CP q o x → CP q t y → CP q (powO q cc na f e o t) (mulE cc na x (powE cc na e y))
  | 0, e, o, t, x, y, h, _, _ => by omega
  | f + 1, e, o, t, x, y, h, ho, ht => by
    unfold powO
    by_cases h0 : e = 0
    · rw [if_pos h0, h0, powE, mulE_one']; exact ho
    · rw [if_neg h0]
      have htt : CP q (mulO q cc na t t) (mulE cc na y y) := (mulO_cp q cc na t t).trans (ht.mul ht)
      by_cases h2 : e % 2 = 1
      · rw [if_pos h2]
        have hoo : CP q (mulO q cc na o t) (mulE cc na x y) := (mulO_cp q cc na o t).trans (ho.mul ht)
        have := powO_cp q cc na f (e / 2) _ _ _ _ (by omega) hoo htt
        rw [powE_sq, mulE_assoc] at this
        have e1 : mulE cc na y (powE cc na (e / 2 + e / 2) y) = powE cc na e y := by
          rw [mulE_comm, ← powE]
          show powE cc na (e / 2 + e / 2 + 1) y = _
          rw [show e / 2 + e / 2 + 1 = e by omega]
        rwa [e1] at this
      · rw [if_neg h2]
        have := powO_cp q cc na f (e / 2) _ _ _ _ (by omega) ho htt
        rw [powE_sq, show e / 2 + e / 2 = e by omega] at this
        exact this

structure KdOk2 (S : Sx) (q kd : Int) (el : Int → Int → V) : Prop where
  nl : ∀ u v, noLst (el u v) = true
  no : ∀ u v, notOld (el u v) = true
  made : ∀ (c : Cx) (σ : St) (n : Nat) (u v : Int) (j : Nat) (P : V → St → Prop), c.fz = false → Ok S c n → 100 ≤ n → σ.ls[j]? = some [.int u, .int v] → -1000000 < u → u < 1000000 → -1000000 < v → v < 1000000 → P (el (Int.fmod u q) (Int.fmod v q)) σ → CallS S c (.old (.ref 474)) [.lst j, .int q, .int kd] σ P
  madeF : kd ≠ 0 → ∀ (c : Cx) (σ : St) (n : Nat) (u v : Int) (P : V → St → Prop), c.fz = false → Ok S c n → 100 ≤ n → P (el (Int.fmod u q) (Int.fmod v q)) σ → CallS S c (.old (.ref 474)) [.flst [.int u, .int v], .int q, .int kd] σ P
  mul : ∀ (c : Cx) (σ : St) (n : Nat) (u0 u1 v0 v1 : Int) (P : V → St → Prop), c.fz = false → Ok S c n → 110 ≤ n → InQ q (u0, u1) → InQ q (v0, v1) → P (el (Int.fmod (u0 * v0 - u1 * v1 * 1) q) (Int.fmod (u0 * v1 + u1 * v0 - u1 * v1 * 0) q)) σ → BinS S c .Mult (el u0 u1) (el v0 v1) σ P
  div : ∀ (c : Cx) (σ : St) (n : Nat) (u0 u1 v0 v1 : Int) (P : V → St → Prop), c.fz = false → Ok S c n → 150 ≤ n → InQ q (u0, u1) → InQ q (v0, v1) → ¬ MEq q (v0 * v0 + v1 * v1) 0 →
    (∀ z0 z1, 0 ≤ z0 → z0 < q → 0 ≤ z1 → z1 < q → MEq q (v0 * z0 - v1 * z1) 1 ∧ MEq q (v0 * z1 + v1 * z0) 0 → P (el (Int.fmod (u0 * z0 - u1 * z1 * 1) q) (Int.fmod (u0 * z1 + u1 * z0 - u1 * z1 * 0) q)) σ) → BinS S c .Div (el u0 u1) (el v0 v1) σ P
  pow : ∀ (c : Cx) (σ : St) (n : Nat) (u0 u1 e : Int) (k : Nat) (P : V → St → Prop), c.fz = false → Ok S c n → 350 ≤ n → InQ q (u0, u1) → e = k → k < 200 → (∀ z0 z1, InQ q (z0, z1) → CP q (z0, z1) (powE 1 0 k (u0, u1)) → P (el z0 z1) σ) → BinS S c .Pow (el u0 u1) (.int e) σ P
  inv : ∃ f : Addr, keepIn S.K (.ref f) = true ∧ (∀ (c : Cx) (σ : St) (n : Nat) (u v : Int) (P : V → List V → Prop), Ok S c n → P (.old (.ref f)) [el u v] → MthS S c (el u v) (Str.ofString "inv") σ P) ∧
    ∀ (c : Cx) (σ : St) (n : Nat) (u v : Int) (P : V → St → Prop), c.fz = false → Ok S c n → 130 ≤ n → InQ q (u, v) → ¬ MEq q (u * u + v * v) 0 → (∀ z0 z1, 0 ≤ z0 → z0 < q → 0 ≤ z1 → z1 < q → MEq q (u * z0 - v * z1) 1 ∧ MEq q (u * z1 + v * z0) 0 → P (el z0 z1) σ) → CallS S c (.old (.ref f)) [el u v] σ P
  one : ∃ f : Addr, keepIn S.K (.ref f) = true ∧ (∀ (c : Cx) (σ : St) (n : Nat) (u v : Int) (P : V → List V → Prop), Ok S c n → P (.old (.ref f)) [el u v] → MthS S c (el u v) (Str.ofString "one") σ P) ∧
    ∀ (c : Cx) (σ : St) (n : Nat) (u v : Int) (P : V → St → Prop), c.fz = false → Ok S c n → 150 ≤ n → InQ q (u, v) → P (el (Int.fmod 1 q) (Int.fmod 0 q)) σ → CallS S c (.old (.ref f)) [el u v] σ P
  eq : ∀ (c : Cx) (σ : St) (n : Nat) (u0 u1 v0 v1 : Int) (P : V → St → Prop), c.fz = false → Ok S c n → 150 ≤ n → InQ q (u0, u1) → InQ q (v0, v1) → P (.bool (u0 == v0 && u1 == v1)) σ → CmpS S c .Eq (el u0 u1) (el v0 v1) σ P
  plain : ∀ (c : Cx) (σ : St) (n : Nat) (u v : Int) (P : V → St → Prop), c.fz = false → Ok S c n → 60 ≤ n → InQ q (u, v) → NewK σ [.int (Int.fmod u q), .int (Int.fmod v q)] P → CallS S c (.old (.ref 479)) [el u v, .int q] σ P
section
variable {S : Sx} (hK : S.K = hd.heap_39 S.w.params) (ht : S.tabs = tabsL) {q : Int} (hq : 0 < q) (hq1 : 1 < q) (hq3 : q < 100) (hp : PfiOk q)
include hK ht hq hq1 hq3 hp
theorem kd2_pl : KdOk2 S q 0 (plV q 1 0) where
  nl := fun _ _ => rfl
  no := fun _ _ => rfl
  made := fun c σ n u v j P hfz O hn hj a0 a1 b0 b1 h => law_made_pl hK (mem_tabs S ht).1 (mem_tabs S ht).2.1 hfz O (by omega) hq (by omega) hj a0 a1 b0 b1 h
  madeF := fun h => absurd rfl h
  mul := fun c σ n u0 u1 v0 v1 P hfz O hn x y h => bin_inst hK O (bo_297_Mult _) (pl_mul hK (mem_tabs S ht).1 (mem_tabs S ht).2.1 hfz O hq (by omega) (by decide) hq1 (by decide) hq x.1.1 x.1.2 x.2.1 x.2.2 y.1.1 y.1.2 y.2.1 y.2.2 (by omega) ⟨rfl, h⟩)
  div := fun c σ n u0 u1 v0 v1 P hfz O hn x y hN h => bin_inst hK O (bo_297_DivE _) (pl_divE hK (mem_tabs S ht).1 (mem_tabs S ht).2.1 hfz O hn hq hq1 (by omega) x.1.1 x.1.2 x.2.1 x.2.2 y.1.1 y.1.2 y.2.1 y.2.2 hq3 hp hN fun z0 z1 e0 e1 e2 e3 hz => ⟨rfl, h z0 z1 e0 e1 e2 e3 hz⟩)
  pow := fun c σ n u0 u1 e k P hfz O hn x he hk h => bin_instI hK O (bi_297_Pow _) (pl_pow hK (mem_tabs S ht).1 (mem_tabs S ht).2.1 hq (by omega) (by decide) hq1 (by decide) hq k k e c σ n u0 u1 _ (Nat.le_refl _) (by omega) he (by omega) hfz O x.1.1 x.1.2 x.2.1 x.2.2 ⟨rfl, h _ _ ((powF_in hq k k (u0, u1))) (powF_cp q 1 0 k k (u0, u1) (Nat.le_refl _))⟩)
  inv := ⟨406, hK ▸ (mt_297_inv _).hk, fun c σ n u v P O h => mthX hK O (mt_297_inv _) rfl h, fun c σ n u v P hfz O hn x hN h => pl_invG hK (mem_tabs S ht).1 (mem_tabs S ht).2.1 hfz O hq hq1 (by omega) x.1.1 x.1.2 (by omega) hp hN x.2.1 x.2.2 h⟩
  one := ⟨439, hK ▸ (mt_297_one _).hk, fun c σ n u v P O h => mthX hK O (mt_297_one _) rfl h, fun c σ n u v P hfz O hn x h => pl_one hK (mem_tabs S ht).1 (mem_tabs S ht).2.1 hfz O hn hq hq1 (by omega) x.1.1 x.1.2 x.2.1 x.2.2 x.1.1 x.1.2 x.2.1 x.2.2 h⟩
  eq := fun c σ n u0 u1 v0 v1 P hfz O hn x y h => cmp_instEq hK O (ceq_297 _) (pl_eqE hK (mem_tabs S ht).1 (mem_tabs S ht).2.1 hfz O hn hq hq1 (by omega) x.1.1 x.1.2 x.2.1 x.2.2 y.1.1 y.1.2 y.2.1 y.2.2 ⟨rfl, h⟩)
  plain := fun c σ n u v P hfz O hn x h => law_plain_pl hK hfz O hn hq (by omega) x.1.1 x.1.2 x.2.1 x.2.2 h
theorem kd2_op {C fm f1 : Addr} {kd : Int} (hM : MadeOk S C fm) (OC : OpCls S.w.params C fm) (bd : BinOk (hd.heap_39 S.w.params) C 93 Operator.Div.info.2) (ce : CmpOk (hd.heap_39 S.w.params) C 124 .Eq) (mo : MthOk (hd.heap_39 S.w.params) C "one" 151)
    (made : ∀ (c : Cx) (σ : St) (n : Nat) (u v : Int) (j : Nat) (P : V → St → Prop), c.fz = false → Ok S c n → 100 ≤ n → σ.ls[j]? = some [.int u, .int v] → P (opV C q 1 0 (Int.fmod u q) (Int.fmod v q)) σ → CallS S c (.old (.ref 474)) [.lst j, .int q, .int kd] σ P)
    (madeF : ∀ (c : Cx) (σ : St) (n : Nat) (u v : Int) (P : V → St → Prop), c.fz = false → Ok S c n → 100 ≤ n → P (opV C q 1 0 (Int.fmod u q) (Int.fmod v q)) σ → CallS S c (.old (.ref 474)) [.flst [.int u, .int v], .int q, .int kd] σ P) : KdOk2 S q kd (opV C q 1 0) where
  nl := fun _ _ => noLst_op
  no := fun _ _ => rfl
  made := fun c σ n u v j P hfz O hn hj a0 a1 b0 b1 h => made c σ n u v j P hfz O hn hj h
  madeF := fun _ => madeF
  mul := fun c σ n u0 u1 v0 v1 P hfz O hn x y h => bin_inst hK O OC.b2 (op_mul hM OC hK hfz O (by omega) hq (by omega) (by decide) hq1 (by decide) hq x.1.1 x.1.2 x.2.1 x.2.2 y.1.1 y.1.2 y.2.1 y.2.2 ⟨rfl, h⟩)
  div := fun c σ n u0 u1 v0 v1 P hfz O hn x y hN h => bin_inst hK O bd (op_divE hM OC hK hfz O hn hq hq1 (by omega) x.1.1 x.1.2 x.2.1 x.2.2 y.1.1 y.1.2 y.2.1 y.2.2 hp hN fun z0 z1 e0 e1 e2 e3 hz => ⟨rfl, h z0 z1 e0 e1 e2 e3 hz⟩)
  pow := fun c σ n u0 u1 e k P hfz O hn x he hk h => bin_instI hK O OC.b4 (op_pow hM OC hK hfz O (by omega) hq (by omega) (by decide) hq1 (by decide) hq x.1.1 x.1.2 x.2.1 x.2.2 he (by omega) ⟨rfl, h _ _ (powO_in hq (k + 1) k _ _ (two_in hq 1 0)) (by
    have := powO_cp q 1 0 (k + 1) k (Int.fmod 1 q, Int.fmod 0 q) (u0, u1) (1, 0) (u0, u1) (Nat.lt_succ_self k) (CP.fm (q := q) (x := (1, 0))) (.refl _)
    rwa [mulE_one] at this)⟩)
  inv := ⟨110, hK ▸ (OC.m2).hk, fun c σ n u v P O h => mthX hK O OC.m2 rfl h, fun c σ n u v P hfz O hn x hN h => op_invG hM OC hK hfz O (by omega) hq hq1 (by omega) x.1.1 x.1.2 hp hN x.2.1 x.2.2 h⟩
  one := ⟨151, hK ▸ mo.hk, fun c σ n u v P O h => mthX hK O mo rfl h, fun c σ n u v P hfz O hn x h => op_one hM OC hK hfz O hn hq hq1 (by omega) x.1.1 x.1.2 x.2.1 x.2.2 x.1.1 x.1.2 x.2.1 x.2.2 h⟩
  eq := fun c σ n u0 u1 v0 v1 P hfz O hn x y h => cmp_instEq hK O ce (op_eqE hM OC hK hfz O hn hq hq1 (by omega) x.1.1 x.1.2 x.2.1 x.2.2 y.1.1 y.1.2 y.2.1 y.2.2 ⟨rfl, h⟩)
  plain := fun c σ n u v P hfz O hn x h => law_plain_op OC hK hfz O hn hq (by omega) x.1.1 x.1.2 x.2.1 x.2.2 h
theorem kd2_ex {kd : Int} (k0 : 0 ≤ kd) (k1 : kd < 3) : ∃ el, KdOk2 S q kd el := by
  have t := mem_tabs S ht
  have hk : kd = 0 ∨ kd = 1 ∨ kd = 2 := by omega
  rcases hk with rfl | rfl | rfl
  · exact ⟨_, kd2_pl hK ht hq hq1 hq3 hp⟩
  · exact ⟨_, kd2_op (f1 := 0) hK ht hq hq1 hq3 hp (made422 hK t.2.2.1 t.2.2.2) (opcls422 _) (bo_422_DivE _) (ceq_422 _) (mt_422_one _) (fun c σ n u v j P hfz O hn hj h => law_made_op1 hK t.2.2.1 t.2.2.2 hfz O (by omega) hq (by omega) hj h) fun c σ n u v P hfz O hn h => law_made_op1F hK t.2.2.1 t.2.2.2 hfz O (by omega) hq (by omega) h⟩
  · exact ⟨_, kd2_op (f1 := 0) hK ht hq hq1 hq3 hp (made451 hK t.2.2.1 t.2.2.2) (opcls451 _) (bo_451_DivE _) (ceq_451 _) (mt_451_one _) (fun c σ n u v j P hfz O hn hj h => law_made_op2 hK t.2.2.1 t.2.2.2 hfz O (by omega) hq (by omega) hj h) fun c σ n u v P hfz O hn h => law_made_op2F hK t.2.2.1 t.2.2.2 hfz O (by omega) hq (by omega) h⟩
end

end

section

open PyProof.Rows.LCg
theorem inQ_of {q u v : Int} (a : 0 ≤ u) (b : u < q) (c : 0 ≤ v) (d : v < q) : InQ q (u, v) := ⟨⟨a, b⟩, c, d⟩
theorem mod_ex (x : Int) {q : Int} (hq : 0 < q) : ∃ r, Int.fmod x q = r ∧ 0 ≤ r ∧ r < q := ⟨_, rfl, fm_lo x hq, fm_hi x hq⟩
theorem prime_at2 {i : Int} (h0 : 0 ≤ i) (h1 : i < 10) : ∃ p ∈ prime2, [V.int 3, .int 5, .int 7, .int 11, .int 13, .int 17, .int 19, .int 23, .int 29, .int 31][i.toNat]? = some (.int ((p : Nat) : Int)) ∧ (i < 5 → p ∈ prime5) := by
  obtain ⟨k, rfl⟩ : ∃ k : Nat, i = k := ⟨i.toNat, by omega⟩
  rw [Int.toNat_natCast]
  have hk : k < 10 := by omega
  match k, hk with
  | 0, _ => exact ⟨3, by decide, rfl, fun _ => by decide⟩
  | 1, _ => exact ⟨5, by decide, rfl, fun _ => by decide⟩
  | 2, _ => exact ⟨7, by decide, rfl, fun _ => by decide⟩
  | 3, _ => exact ⟨11, by decide, rfl, fun _ => by decide⟩
  | 4, _ => exact ⟨13, by decide, rfl, fun _ => by decide⟩
  | 5, _ => exact ⟨17, by decide, rfl, fun h => absurd h (by decide)⟩
  | 6, _ => exact ⟨19, by decide, rfl, fun h => absurd h (by decide)⟩
  | 7, _ => exact ⟨23, by decide, rfl, fun h => absurd h (by decide)⟩
  | 8, _ => exact ⟨29, by decide, rfl, fun h => absurd h (by decide)⟩
  | 9, _ => exact ⟨31, by decide, rfl, fun h => absurd h (by decide)⟩
theorem fm_filter {α β : Type} (q : α → Bool) (g : α → β) : ∀ l : List α, (l.flatMap fun x => if q x = true then [g x] else []) = (l.filter q).map g
  | [] => rfl
  | x :: l => by
    rw [List.flatMap_cons, fm_filter q g l, List.filter_cons]
    cases q x <;> simp
theorem ne0_cast (a : Nat) : ((a : Int) != 0) = (a != 0) := by
  cases a with
  | zero => rfl
  | succ a => rfl
theorem fm_single {α β : Type} (g : α → β) : ∀ l : List α, (l.flatMap fun x => [g x]) = l.map g
  | [] => rfl
  | x :: l => by rw [List.flatMap_cons, fm_single g l]; rfl
theorem pts_map (p : Nat) : (slopesN p).map (fun t => pairL (pt p t)) ++ [V.flst [.int ((p : Int) - 1), .int 0]] = (ptsN p).map pairL := by
  unfold ptsN; rw [List.map_append, List.map_map]; rfl
theorem noLsts_pts (p : Nat) : noLsts ((slopesN p).map fun t => pairL (pt p t)) = true := by
  have := noLsts_pairL ((slopesN p).map (pt p))
  rwa [List.map_map] at this
theorem dec2 (x : Int × Int) : decide ([x.1, x.2] = [1, 0]) = (x == (1, 0)) := by
  obtain ⟨a, b⟩ := x
  by_cases h1 : a = 1 <;> by_cases h2 : b = 0 <;> simp [h1, h2]
abbrev intsV (l : List Nat) : List V := l.map fun (t : Nat) => V.int (t : Int)
theorem slope_at {p : Nat} (hp : p ∈ prime2) (x : Int) : ∃ i : Int, Int.fmod x ((slopesN p).length : Int) = i ∧ 0 ≤ i ∧ i < 1000 ∧ ∃ t ∈ slopesN p, (intsV (slopesN p))[i.toNat]? = some (.int (t : Int)) := by
  obtain ⟨h0, h1⟩ := slopesN_len hp
  have a0 := fm_lo x (q := ((slopesN p).length : Int)) (by omega)
  have a1 := fm_hi x (q := ((slopesN p).length : Int)) (by omega)
  refine ⟨_, rfl, a0, by omega, ?_⟩
  have hi : (Int.fmod x ((slopesN p).length : Int)).toNat < (slopesN p).length := by omega
  exact ⟨(slopesN p)[(Int.fmod x ((slopesN p).length : Int)).toNat], List.getElem_mem hi, by simp [intsV, hi]⟩

theorem turn_ok {p X Y : Int} (hc : MEq p (X * X + Y * Y) 1) : ∀ k, (MEq p (powE 1 0 k (X, Y)).1 (turnT p X k).1 ∧ MEq p (powE 1 0 k (X, Y)).2 ((turnU p X k).1 * Y)) ∧ MEq p (powE 1 0 (k + 1) (X, Y)).1 (turnT p X k).2 ∧ MEq p (powE 1 0 (k + 1) (X, Y)).2 ((turnU p X k).2 * Y)
  | 0 => by
    refine ⟨⟨.rfl', ?_⟩, ?_, ?_⟩
    · show MEq p 0 (0 * Y); rw [Int.zero_mul]; exact .rfl'
    · show MEq p (1 * X - 0 * Y * 1) X; rw [show (1 * X - 0 * Y * 1) = X by grind]; exact .rfl'
    · show MEq p (1 * Y + 0 * X - 0 * Y * 0) (1 * Y); rw [show (1 * Y + 0 * X - 0 * Y * 0) = 1 * Y by grind]; exact .rfl'
  | k + 1 => by
    obtain ⟨⟨h1, h2⟩, h3, h4⟩ := turn_ok hc k
    refine ⟨⟨h3, h4⟩, ?_, ?_⟩
    · show MEq p ((powE 1 0 (k + 1) (X, Y)).1 * X - (powE 1 0 (k + 1) (X, Y)).2 * Y * 1) (Int.fmod (2 * X * (turnT p X k).2 - (turnT p X k).1) p)
      refine MEq.trans ?_ (MEq.symm .fmr)
      refine MEq.trans ?_ ((meq_mulL (2 * X) h3).sub h1)
      have e1 : (powE 1 0 (k + 1) (X, Y)).1 = (powE 1 0 k (X, Y)).1 * X - (powE 1 0 k (X, Y)).2 * Y * 1 := rfl
      have e2 : (powE 1 0 (k + 1) (X, Y)).2 = (powE 1 0 k (X, Y)).1 * Y + (powE 1 0 k (X, Y)).2 * X - (powE 1 0 k (X, Y)).2 * Y * 0 := rfl
      rw [e1, e2]
      generalize (powE 1 0 k (X, Y)).1 = a
      generalize (powE 1 0 k (X, Y)).2 = b
      have := (MEq.rfl' (q := p) (a := (a * X - b * Y * 1) * X - (a * Y + b * X - b * Y * 0) * Y + a * (X * X + Y * Y))).sub (meq_mulL a hc)
      exact (MEq.trans (⟨0, by grind⟩ : MEq p ((a * X - b * Y * 1) * X - (a * Y + b * X - b * Y * 0) * Y * 1) ((a * X - b * Y * 1) * X - (a * Y + b * X - b * Y * 0) * Y + a * (X * X + Y * Y) - a * (X * X + Y * Y))) this).trans ⟨0, by grind⟩
    · show MEq p ((powE 1 0 (k + 1) (X, Y)).1 * Y + (powE 1 0 (k + 1) (X, Y)).2 * X - (powE 1 0 (k + 1) (X, Y)).2 * Y * 0) (Int.fmod (2 * X * (turnU p X k).2 - (turnU p X k).1) p * Y)
      have f : MEq p (Int.fmod (2 * X * (turnU p X k).2 - (turnU p X k).1) p * Y) ((2 * X * (turnU p X k).2 - (turnU p X k).1) * Y) := MEq.mul .fmr .rfl'
      refine MEq.trans ?_ f.symm
      have g := (meq_mulL (2 * X) h4).sub h2
      have e1 : (powE 1 0 (k + 1) (X, Y)).1 = (powE 1 0 k (X, Y)).1 * X - (powE 1 0 k (X, Y)).2 * Y * 1 := rfl
      have e2 : (powE 1 0 (k + 1) (X, Y)).2 = (powE 1 0 k (X, Y)).1 * Y + (powE 1 0 k (X, Y)).2 * X - (powE 1 0 k (X, Y)).2 * Y * 0 := rfl
      refine MEq.trans ?_ (g.trans ⟨0, by grind⟩)
      rw [e1, e2]
      generalize (powE 1 0 k (X, Y)).1 = a
      generalize (powE 1 0 k (X, Y)).2 = b
      have := (MEq.rfl' (q := p) (a := (a * X - b * Y * 1) * Y + (a * Y + b * X - b * Y * 0) * X + b * (X * X + Y * Y))).sub (meq_mulL b hc)
      exact (MEq.trans (⟨0, by grind⟩ : MEq p ((a * X - b * Y * 1) * Y + (a * Y + b * X - b * Y * 0) * X - (a * Y + b * X - b * Y * 0) * Y * 0) ((a * X - b * Y * 1) * Y + (a * Y + b * X - b * Y * 0) * X + b * (X * X + Y * Y) - b * (X * X + Y * Y))) this).trans ⟨0, by grind⟩
theorem way1L {p t : Nat} (hp : p ∈ prime2) (ht : t ∈ slopesN p) (k : Nat) : [(powM p k (pt p t)).1, (powM p k (pt p t)).2] = [Int.fmod (turnT p (pt p t).1 k).1 p, Int.fmod ((turnU p (pt p t).1 k).1 * (pt p t).2) p] := by
  have hq : (1 : Int) < p := by have := (prime2_rng hp).1; omega
  have h := (turn_ok (circ hp ht) k).1
  have c := powM_cp p (pt p t) k
  have i := powM_in hq (pt p t) k
  have e1 := meq_in ((c.1.trans h.1).trans (MEq.symm .fmr)) i.1.1 i.1.2 (fm_lo _ (by omega)) (fm_hi _ (by omega))
  have e2 := meq_in ((c.2.trans h.2).trans (MEq.symm .fmr)) i.2.1 i.2.2 (fm_lo _ (by omega)) (fm_hi _ (by omega))
  rw [e1, e2]
def circN (p : Nat) : List (Int × Int) := (List.range p).flatMap fun (x : Nat) => (List.range p).flatMap fun (y : Nat) => if (Int.fmod ((0 + (x : Int) * 1) * (0 + (x : Int) * 1) + (0 + (y : Int) * 1) * (0 + (y : Int) * 1)) p == 1) = true then [((0 + (x : Int) * 1), (0 + (y : Int) * 1))] else []
theorem circ_map (p : Nat) : ((List.range p).flatMap fun (x : Nat) => (List.range p).flatMap fun (y : Nat) => if (Int.fmod ((0 + (x : Int) * 1) * (0 + (x : Int) * 1) + (0 + (y : Int) * 1) * (0 + (y : Int) * 1)) p == 1) = true then [pairL ((0 + (x : Int) * 1), (0 + (y : Int) * 1))] else []) = (circN p).map pairL := by
  unfold circN
  rw [List.map_flatMap]
  congr 1
  funext x
  rw [List.map_flatMap]
  congr 1
  funext y
  split <;> rfl
theorem chk3_ok : (prime5.all fun p => sortP (ptsN p) == some (circN p) && (circN p).length == manyN p) = true := by decide +kernel
theorem way3N {p : Nat} (hp : p ∈ prime5) : sortP (ptsN p) = some (circN p) ∧ (circN p).length = manyN p := by
  have := List.all_eq_true.mp chk3_ok p hp
  rw [Bool.and_eq_true, beq_iff_eq, beq_iff_eq] at this
  exact this
theorem ptsN_len {p : Nat} (hp : p ∈ prime5) : 2 ≤ (ptsN p).length ∧ (ptsN p).length < 20 := by
  have : (prime5.all fun p => decide (2 ≤ (ptsN p).length ∧ (ptsN p).length < 20)) = true := by decide +kernel
  exact of_decide_eq_true (List.all_eq_true.mp this p hp)
theorem ptsN_in {p : Nat} (hp : p ∈ prime5) : ∀ z ∈ ptsN p, InQ (p : Int) z := fun z hz => by
  have h2 := (prime2_rng (prime5_2 hp)).1
  unfold ptsN at hz
  rcases List.mem_append.mp hz with hz | hz
  · obtain ⟨t, ht, rfl⟩ := List.mem_map.mp hz
    exact pt_in (prime5_2 hp)
  · rw [List.mem_singleton.mp hz]
    exact ⟨⟨by show (0 : Int) ≤ p - 1; omega, by show (p : Int) - 1 < p; omega⟩, Int.le_refl 0, by show (0 : Int) < p; omega⟩
section
variable {S : Sx} {c : Cx} {env : Env} {σ : St} {n : Nat} {P : V → St → Prop}
theorem ev_cut1 (v0 : V) {e : Expr} (h : EvS S c env e σ fun v σ' => v = v0 ∧ σ' = σ) (k : P v0 σ) : EvS S c env e σ P := ev_cut h k
theorem ev_cutN (ws : List V) {e : Expr} (h : EvS S c env e σ fun v σ' => v = .lst σ.ls.length ∧ σ' = { σ with ls := σ.ls ++ [ws] }) (k : NewK σ ws P) : EvS S c env e σ P := ev_cut h k
theorem law_commonE (hK : S.K = hd.heap_39 S.w.params) (hfz : c.fz = false) (O : Ok S c n) (hn : 30 ≤ n) {a b : Nat} {x y : Int} (hx : x = (a : Int)) (hy : y = (b : Int)) (ha : a < 1000) (hb : b < 1000) (h : P (.int (Nat.gcd a b)) σ) : CallS S c (.old (.ref 500)) [.int x, .int y] σ P := by
  subst hx hy; exact law_common hK hfz O hn ha hb h
theorem bin_modE {a b d : Int} (hb : b ≠ 0) (he : Int.fmod a b = d) (h : P (.int d) σ) : BinS S c .Mod (.int a) (.int b) σ P := bin_mod hb (he ▸ h)
theorem cmp_eqL2 (O : Ok S c n) (hn : 10 ≤ n) {i j : Nat} {a b d e : Int} (hi : σ.ls[i]? = some [.int a, .int b]) (hj : σ.ls[j]? = some [.int d, .int e]) (h : P (.bool (decide ([a, b] = [d, e]))) σ) : CmpS S c .Eq (.lst i) (.lst j) σ P := cmp_eqL O hn (ns := [a, b]) (ms := [d, e]) hi hj h
theorem cmp_neL2 (O : Ok S c n) (hn : 10 ≤ n) {i j : Nat} {a b d e : Int} (hi : σ.ls[i]? = some [.int a, .int b]) (hj : σ.ls[j]? = some [.int d, .int e]) (h : P (.bool (!decide ([a, b] = [d, e]))) σ) : CmpS S c .NotEq (.lst i) (.lst j) σ P := cmp_neL O hn (ns := [a, b]) (ms := [d, e]) hi hj h
theorem kx_len {l : List Nat} (hz : l.length < 1000) (h : P (.int (l.length : Int)) σ) : CallS S c (.old (.builtin "len")) [.flst (intsV l)] σ P := call_len_fl (by simpa using hz) (by simpa using h)
theorem kx_lenP {l : List (Int × Int)} (hz : l.length < 1000) (h : P (.int (l.length : Int)) σ) : CallS S c (.old (.builtin "len")) [.flst (l.map pairL)] σ P := call_len_fl (by simpa using hz) (by simpa using h)
theorem law_pt (hK : S.K = hd.heap_39 S.w.params) (hfz : c.fz = false) (O : Ok S c n) (hn : 30 ≤ n) {p t : Nat} (hp : p ∈ prime2) {e : Int} (he : e = (t : Int)) (ht : t < p) (h : NewK σ [.int (pt p t).1, .int (pt p t).2] P) : CallS S c (.old (.ref 486)) [.int e, .int (p : Int)] σ P := by
  subst he
  obtain ⟨p2, p32⟩ := prime2_rng hp
  obtain ⟨a, b, d⟩ := slope_arg p t p2
  have := ptr_lt hp ht
  exact law_point (r := ptr p t) hK hfz O hn (by omega) (by omega) (by omega) (by omega) (by rw [a, b, d]; rfl) (by omega) h
end
section
variable {S : Sx} {p : Nat} {kd : Int} {el : Int → Int → V} (hKd : KdOk2 S (p : Int) kd el) (hp : p ∈ prime2) {c : Cx} {σ : St} {n : Nat} {P : V → St → Prop} (hfz : c.fz = false) (O : Ok S c n)
include hKd hp hfz O
theorem kx_mul (hn : 110 ≤ n) {x y : Int × Int} (hx : InQ (p : Int) x) (hy : InQ (p : Int) y) (h : P (el (mulM p x y).1 (mulM p x y).2) σ) : BinS S c .Mult (el x.1 x.2) (el y.1 y.2) σ P := hKd.mul c σ n _ _ _ _ P hfz O hn hx hy h
theorem kx_pow (hn : 350 ≤ n) {x : Int × Int} {e : Int} {k : Nat} (he : e = k) (hk : k < 200) (hx : InQ (p : Int) x) (h : P (el (powM p k x).1 (powM p k x).2) σ) : BinS S c .Pow (el x.1 x.2) (.int e) σ P :=
  hKd.pow c σ n _ _ e k P hfz O hn hx he hk fun z0 z1 hz hc => by
    have := powM_eq (by have := (prime2_rng hp).1; omega) hz hc
    have e1 := congrArg Prod.fst this
    have e2 := congrArg Prod.snd this
    simp only at e1 e2
    rw [e1, e2]; exact h
theorem kx_made (hn : 100 ≤ n) {u v u' v' : Int} {j : Nat} (hj : σ.ls[j]? = some [.int u, .int v]) (a0 : -1000000 < u) (a1 : u < 1000000) (b0 : -1000000 < v) (b1 : v < 1000000) (hu : Int.fmod u (p : Int) = u') (hv : Int.fmod v (p : Int) = v') (h : P (el u' v') σ) : CallS S c (.old (.ref 474)) [.lst j, .int (p : Int), .int kd] σ P :=
  hKd.made c σ n u v j P hfz O hn hj a0 a1 b0 b1 (hu ▸ hv ▸ h)
theorem kx_madeF (hn : 100 ≤ n) (hk : kd ≠ 0) {x : Int × Int} (hx : InQ (p : Int) x) (h : P (el x.1 x.2) σ) : CallS S c (.old (.ref 474)) [pairL x, .int (p : Int), .int kd] σ P :=
  hKd.madeF hk c σ n _ _ P hfz O hn (by rw [fm_id hx.1.1 hx.1.2, fm_id hx.2.1 hx.2.2]; exact h)
theorem kx_told (hn : 150 ≤ n) {t : Nat} (ht : t ∈ slopesN p) {v : Int} (hv : Int.fmod (0 - (t : Int)) p = v) (h : P (el (pt p t).1 (pt p t).2) σ) : BinS S c .Div (el 1 (t : Int)) (el 1 v) σ P := by
  obtain ⟨p2, p32⟩ := prime2_rng hp
  obtain ⟨t1, t2⟩ := slopesN_mem ht
  have mv : MEq (p : Int) v (0 - (t : Int)) := by rw [← hv]; exact .fmr
  obtain ⟨r1, r2⟩ := slope_inv hp t1 t2
  have v0 := fm_lo (0 - (t : Int)) (q := (p : Int)) (by omega)
  have v1 := fm_hi (0 - (t : Int)) (q := (p : Int)) (by omega)
  rw [hv] at v0 v1
  refine hKd.div c σ n 1 (t : Int) 1 v P hfz O hn (inQ_of (by decide) (by omega) (by omega) (by omega)) (inQ_of (by decide) (by omega) v0 v1) (fun hN => t2 ?_) fun z0 z1 e0 e1 e2 e3 hz => ?_
  · have h1 : MEq (p : Int) (1 * 1 + v * v) (1 + (t : Int) * t) := (MEq.rfl'.add (mv.mul mv)).trans ⟨0, by grind⟩
    have h2 := h1.symm.trans hN
    have h3 : MEq (p : Int) (((1 + t * t : Nat) : Nat) : Int) ((0 : Nat) : Int) := by simpa using h2
    have := nat_of_meq h3
    simpa using this
  · obtain ⟨g1, g2⟩ := told_pt mv hz r1
    have f1 : Int.fmod (1 * z0 - (t : Int) * z1 * 1) p = (pt p t).1 := g1.eq
    have f2 : Int.fmod (1 * z1 + (t : Int) * z0 - (t : Int) * z1 * 0) p = (pt p t).2 := g2.eq
    rw [f1, f2]
    exact h
theorem kx_inv (hn : 130 ≤ n) {t : Nat} (ht : t ∈ slopesN p) {pos : Pos} {env : Env} (h : P (el (pt p t).1 (Int.fmod (0 - (pt p t).2) p)) σ) : MthS S c (el (pt p t).1 (pt p t).2) (Str.ofString "inv") σ (fun f first => CwS S c env pos f first [] σ P) := by
  obtain ⟨f, h1, h2, h3⟩ := hKd.inv
  have hq : (1 : Int) < p := by have := (prime2_rng hp).1; omega
  have hc := circ hp ht
  have hi := pt_in (t := t) hp
  refine h2 c σ n _ _ _ O (cw_K0 O h1 (h3 c σ n _ _ P hfz O hn hi (fun hN => not_meq01 hq (hN.symm.trans hc)) fun z0 z1 e0 e1 e2 e3 hz => ?_))
  obtain ⟨g1, g2⟩ := hz
  have k1 : MEq (p : Int) z0 (pt p t).1 := by
    have a1 := (meq_mulL (pt p t).1 g1).add (meq_mulL (pt p t).2 g2)
    have a2 := meq_mulL z0 hc
    exact (MEq.trans (⟨0, by grind⟩ : MEq (p : Int) z0 (z0 * 1)) a2.symm).trans ((MEq.trans (⟨0, by grind⟩ : MEq (p : Int) (z0 * ((pt p t).1 * (pt p t).1 + (pt p t).2 * (pt p t).2)) ((pt p t).1 * ((pt p t).1 * z0 - (pt p t).2 * z1) + (pt p t).2 * ((pt p t).1 * z1 + (pt p t).2 * z0))) a1).trans ⟨0, by grind⟩)
  have k2 : MEq (p : Int) z1 (0 - (pt p t).2) := by
    have a1 := (meq_mulL (pt p t).1 g2).sub (meq_mulL (pt p t).2 g1)
    have a2 := meq_mulL z1 hc
    exact (MEq.trans (⟨0, by grind⟩ : MEq (p : Int) z1 (z1 * 1)) a2.symm).trans ((MEq.trans (⟨0, by grind⟩ : MEq (p : Int) (z1 * ((pt p t).1 * (pt p t).1 + (pt p t).2 * (pt p t).2)) ((pt p t).1 * ((pt p t).1 * z1 + (pt p t).2 * z0) - (pt p t).2 * ((pt p t).1 * z0 - (pt p t).2 * z1))) a1).trans ⟨0, by grind⟩)
  have f1 := meq_in k1 e0 e1 hi.1.1 hi.1.2
  have f2 := meq_in (k2.trans (MEq.symm .fmr)) e2 e3 (fm_lo _ (by omega)) (fm_hi _ (by omega))
  rw [f1, f2]
  exact h
theorem kx_one (hn : 150 ≤ n) {x : Int × Int} (hx : InQ (p : Int) x) {pos : Pos} {env : Env} (h : P (el 1 0) σ) : MthS S c (el x.1 x.2) (Str.ofString "one") σ (fun f first => CwS S c env pos f first [] σ P) := by
  obtain ⟨f, h1, h2, h3⟩ := hKd.one
  have hq : (1 : Int) < p := by have := (prime2_rng hp).1; omega
  exact h2 c σ n _ _ _ O (cw_K0 O h1 (h3 c σ n _ _ P hfz O hn hx (by rw [fm_id (by decide) hq, Int.zero_fmod]; exact h)))
theorem kx_eq (hn : 150 ≤ n) {u0 u1 v0 v1 : Int} (hx : InQ (p : Int) (u0, u1)) (hy : InQ (p : Int) (v0, v1)) (h : P (.bool (u0 == v0 && u1 == v1)) σ) : CmpS S c .Eq (el u0 u1) (el v0 v1) σ P := hKd.eq c σ n _ _ _ _ P hfz O hn hx hy h
theorem kx_plain (hn : 60 ≤ n) {u v : Int} (hx : InQ (p : Int) (u, v)) (h : NewK σ [.int u, .int v] P) : CallS S c (.old (.ref 479)) [el u v, .int (p : Int)] σ P :=
  hKd.plain c σ n u v P hfz O hn hx (by rw [fm_id hx.1.1 hx.1.2, fm_id hx.2.1 hx.2.2]; exact h)
end

end

section

section
variable {h h' : Heap}
theorem k_in {P : Params} (X : (K2 hd.heap_39 P).In h) : (hd.heap_39 P).In h := fun a o e => of_hideAll _ (k_of X a o e)
theorem law_old {P : Params} (X : (K2 hd.heap_39 P).In h) (hk : ∀ b o, b ≠ 348 → b ≠ 49 → h.get? b = some o → h'.get? b = some o) (h1 : ∃ ps, h'.get? 348 = some (tabO ps)) (h2 : ∃ ps, h'.get? 49 = some (tabO ps)) : OldK h h' := by
  have t := tabs_of X
  have K1 : CodeHd h 352 348 := codeHd_of_K (K := hd.heap_39 P) (k_in X) (by kernel_rfl)
  have K2' : CodeHd h 51 49 := codeHd_of_K (K := hd.heap_39 P) (k_in X) (by kernel_rfl)
  obtain ⟨p1, g1⟩ := h1
  obtain ⟨p2, g2⟩ := h2
  refine ⟨fun b o e => ?_, fun b o e => ?_⟩
  · by_cases b1 : b = 348
    · subst b1
      have : o = tb0 := Option.some.inj (e.symm.trans t.a)
      subst this
      exact .inr (.inl ⟨(K1.tab t.a).isCodeTable, rfl, #[], p1, rfl, by rw [Array.empty_append]; exact g1⟩)
    by_cases b2 : b = 49
    · subst b2
      have : o = tb0 := Option.some.inj (e.symm.trans t.b)
      subst this
      exact .inr (.inl ⟨(K2'.tab t.b).isCodeTable, rfl, #[], p2, rfl, by rw [Array.empty_append]; exact g2⟩)
    exact .inl (hk b o b1 b2 e)
  · by_cases b1 : b = 348
    · subst b1; exact ⟨_, g1⟩
    by_cases b2 : b = 49
    · subst b2; exact ⟨_, g2⟩
    exact ⟨o, hk b o b1 b2 e⟩
end

end

section
local macro_rules | `(tactic| wtm_at "syB0") => `(tactic| assumption)
local macro_rules | `(tactic| wtm_at "syB0") => `(tactic| omega)
local macro_rules | `(tactic| wtm_at "syB0") => `(tactic| (with_reducible exact fm_hi _ (by with_reducible assumption)))
local macro_rules | `(tactic| wtm_at "syB0") => `(tactic| (with_reducible exact fm_lo _ (by with_reducible assumption)))
local macro_rules | `(tactic| wtm_at "syB0") => `(tactic| with_reducible assumption)
local macro_rules | `(tactic| wtm_at "syCmp") => `(tactic| ((with_reducible refine' kx_eq ?hKd ?hp ?hfz ?O ?hn ?hx ?hy ?_); (case hKd => assumption); (case hp => assumption); (case hfz => assumption); (case O => assumption); (case hn => first | exact Nat.le_of_ble_eq_true rfl | omega); (case hx => wtm_at "syIQ"); (case hy => wtm_at "syIQ")))
local macro_rules | `(tactic| wtm_at "syCmp") => `(tactic| ((with_reducible refine' cmp_neL2 ?O ?hn ?hi ?hj ?_); (case O => assumption); (case hn => first | exact Nat.le_of_ble_eq_true rfl | omega); (case hi => wtm_at "syHK"); (case hj => wtm_at "syHK")))
local macro_rules | `(tactic| wtm_at "syCmp") => `(tactic| ((with_reducible refine' cmp_eqL2 ?O ?hn ?hi ?hj ?_); (case O => assumption); (case hn => first | exact Nat.le_of_ble_eq_true rfl | omega); (case hi => wtm_at "syHK"); (case hj => wtm_at "syHK")))
local macro_rules | `(tactic| wtm_at "sySub") => `(tactic| ((with_reducible refine' sub_lst ?hs ?hk ?h0 ?h1 ?hv ?_); (case hs => (intro _ _; rfl)); (case hk => wtm_at "syHK"); (case h0 => first | rfl | with_reducible assumption); (case h1 => first | rfl | with_reducible assumption); (case hv => first | rfl | with_reducible assumption)))
local macro_rules | `(tactic| wtm_at "sySub") => `(tactic| ((with_reducible refine' sub_fl ?hs ?h0 ?h1 ?hv ?_); (case hs => (intro _ _; rfl)); (case h0 => with_reducible assumption); (case h1 => with_reducible assumption); (case hv => with_reducible assumption)))
local macro_rules | `(tactic| wtm_at "syIQ") => `(tactic| exact inQ_of (by wtm_at "syB0") (by wtm_at "syB0") (by wtm_at "syB0") (by wtm_at "syB0"))
local macro_rules | `(tactic| wtm_at "syIQ") => `(tactic| exact powM_in (by omega) _ _)
local macro_rules | `(tactic| wtm_at "syIQ") => `(tactic| with_reducible assumption)
local macro_rules | `(tactic| wtm_at "syCall") => `(tactic| ((with_reducible refine' kx_len ?hz ?_); (case hz => with_reducible assumption)))
local macro_rules | `(tactic| wtm_at "syCall") => `(tactic| ((with_reducible refine' law_pt ?hK ?hfz ?O ?hn ?hp ?he ?ht ?_); (case hK => assumption); (case hfz => assumption); (case O => assumption); (case hn => first | exact Nat.le_of_ble_eq_true rfl | omega); (case hp => assumption); (case he => first | exact rfl | with_reducible assumption); (case ht => with_reducible assumption)))
local macro_rules | `(tactic| wtm_at "syCall") => `(tactic| ((with_reducible refine' law_at ?hK ?hI ?hsz ?O ?hn 5 _ ?he ?hk ?_); (case hK => assumption); (case hI => assumption); (case hsz => assumption); (case O => assumption); (case hn => first | exact Nat.le_of_ble_eq_true rfl | omega); (case he => exact rfl); (case hk => decide)))
local macro_rules | `(tactic| wtm_at "syCall") => `(tactic| ((with_reducible refine' law_at ?hK ?hI ?hsz ?O ?hn 4 _ ?he ?hk ?_); (case hK => assumption); (case hI => assumption); (case hsz => assumption); (case O => assumption); (case hn => first | exact Nat.le_of_ble_eq_true rfl | omega); (case he => exact rfl); (case hk => decide)))
local macro_rules | `(tactic| wtm_at "syCall") => `(tactic| ((with_reducible refine' law_at ?hK ?hI ?hsz ?O ?hn 3 _ ?he ?hk ?_); (case hK => assumption); (case hI => assumption); (case hsz => assumption); (case O => assumption); (case hn => first | exact Nat.le_of_ble_eq_true rfl | omega); (case he => exact rfl); (case hk => decide)))
local macro_rules | `(tactic| wtm_at "syCall") => `(tactic| ((with_reducible refine' law_at ?hK ?hI ?hsz ?O ?hn 2 _ ?he ?hk ?_); (case hK => assumption); (case hI => assumption); (case hsz => assumption); (case O => assumption); (case hn => first | exact Nat.le_of_ble_eq_true rfl | omega); (case he => exact rfl); (case hk => decide)))
local macro_rules | `(tactic| wtm_at "syCall") => `(tactic| ((with_reducible refine' law_at ?hK ?hI ?hsz ?O ?hn 1 _ ?he ?hk ?_); (case hK => assumption); (case hI => assumption); (case hsz => assumption); (case O => assumption); (case hn => first | exact Nat.le_of_ble_eq_true rfl | omega); (case he => exact rfl); (case hk => decide)))
local macro_rules | `(tactic| wtm_at "syCall") => `(tactic| ((with_reducible refine' law_at ?hK ?hI ?hsz ?O ?hn 0 _ ?he ?hk ?_); (case hK => assumption); (case hI => assumption); (case hsz => assumption); (case O => assumption); (case hn => first | exact Nat.le_of_ble_eq_true rfl | omega); (case he => exact rfl); (case hk => decide)))
local macro_rules | `(tactic| wtm_at "syCall") => `(tactic| ((with_reducible refine' law_primes ?hK ?hfz ?O ?hn ?_); (case hK => assumption); (case hfz => assumption); (case O => assumption); (case hn => first | exact Nat.le_of_ble_eq_true rfl | omega)))
local macro_rules | `(tactic| wtm_at "syCall") => `(tactic| ((with_reducible refine' kx_plain ?hKd ?hp ?hfz ?O ?hn ?hx ?_); (case hKd => assumption); (case hp => assumption); (case hfz => assumption); (case O => assumption); (case hn => first | exact Nat.le_of_ble_eq_true rfl | omega); (case hx => wtm_at "syIQ")))
local macro_rules | `(tactic| wtm_at "syCall") => `(tactic| ((with_reducible refine' kx_madeF ?hKd ?hp ?hfz ?O ?hn ?hk ?hx ?_); (case hKd => assumption); (case hp => assumption); (case hfz => assumption); (case O => assumption); (case hn => first | exact Nat.le_of_ble_eq_true rfl | omega); (case hk => assumption); (case hx => wtm_at "syIQ")))
local macro_rules | `(tactic| wtm_at "syCall") => `(tactic| ((with_reducible refine' kx_made ?hKd ?hp ?hfz ?O ?hn ?hj ?a0 ?a1 ?b0 ?b1 ?hu ?hv ?_); (case hKd => assumption); (case hp => assumption); (case hfz => assumption); (case O => assumption); (case hn => first | exact Nat.le_of_ble_eq_true rfl | omega); (case hj => wtm_at "syHK"); (case a0 => wtm_at "syB0"); (case a1 => wtm_at "syB0"); (case b0 => wtm_at "syB0"); (case b1 => wtm_at "syB0"); (case hu => first | with_reducible assumption | exact rfl); (case hv => first | with_reducible assumption | exact rfl)))
local macro_rules | `(tactic| wtm_at "syBin") => `(tactic| ((with_reducible refine' bin_flL ?hfz ?hj ?hz ?_); (case hfz => assumption); (case hj => wtm_at "syHK"); (case hz => first | with_reducible assumption | (simp; omega))))
local macro_rules | `(tactic| wtm_at "syBin") => `(tactic| ((with_reducible refine' kx_pow ?hKd ?hp ?hfz ?O ?hn ?he ?hk ?hx ?_); (case hKd => assumption); (case hp => assumption); (case hfz => assumption); (case O => assumption); (case hn => first | exact Nat.le_of_ble_eq_true rfl | omega); (case he => first | with_reducible assumption | exact rfl); (case hk => omega); (case hx => wtm_at "syIQ")))
local macro_rules | `(tactic| wtm_at "syBin") => `(tactic| ((with_reducible refine' kx_mul ?hKd ?hp ?hfz ?O ?hn ?hx ?hy ?_); (case hKd => assumption); (case hp => assumption); (case hfz => assumption); (case O => assumption); (case hn => first | exact Nat.le_of_ble_eq_true rfl | omega); (case hx => wtm_at "syIQ"); (case hy => wtm_at "syIQ")))
local macro_rules | `(tactic| wtm_at "syBin") => `(tactic| ((with_reducible refine' kx_told ?hKd ?hp ?hfz ?O ?hn ?ht ?hv ?_); (case hKd => assumption); (case hp => assumption); (case hfz => assumption); (case O => assumption); (case hn => first | exact Nat.le_of_ble_eq_true rfl | omega); (case ht => assumption); (case hv => with_reducible assumption)))
local macro_rules | `(tactic| wtm_at "syBin") => `(tactic| ((with_reducible refine' bin_modE ?hb ?he ?_); (case hb => wtm_at "syNe"); (case he => with_reducible assumption)))
theorem x : PySem.Challenge.rw_bw0043_02.Holds := hd (by
  k_fill
  intro w s₀ s₁ mg mb G Y fa o pm cd doc dV kV ho hd' hcd hD hmg hg args vals as hpre hlay hrd hwl hlo
  have KX := kIn_of Y
  have X := (Ground.X G).1
  have V := (Ground.X G).2
  refine Ground.open G ?_
  intro T B D TE TW
  try (refine guard_noD D (by decide +kernel) ?_; clear D)
  obtain ⟨bm, ob, M⟩ := bmod_of_top T
  clear hmg
  wrow_args hpre hlay hrd hwl hlo
  all_goals (
    first | refine callC_kw (enter_call ?_) | refine enter_call ?_
    w_top on
    have K0 := below_caller (Top.heap T)
    w_call any ho hd' hcd hD T F
    clear hd')
  rename_i hd1 hd2 hd3 N0 X0
  (with_reducible rename IntsAre _ _ => hI)
  (with_reducible rename Heap.IsList _ _ _ => hL)
  (with_reducible rename ¬ _ => hlen)
  refine law_start T KX M hg hL F N0 ?hce ?hnd rfl rfl rfl rfl rfl rfl rfl rfl ?main ?fin
  case hce =>
    intro x hx
    rcases List.mem_cons.mp hx with rfl | hx
    · exact ⟨_, _, .head _, hd1⟩
    rcases List.mem_cons.mp hx with rfl | hx
    · exact ⟨_, _, .tail _ (.head _), hd2⟩
    rcases List.mem_cons.mp hx with rfl | hx
    · exact ⟨_, _, .tail _ (.tail _ (.head _)), hd3⟩
    cases hx
  case hnd =>
    show List.Nodup [s₁.heap.objs.size + 1 + 1 + 1, s₁.heap.objs.size + 1 + 1, s₁.heap.objs.size + 1]
    simp
    exact Nat.ne_of_gt (Nat.lt_succ_of_lt (Nat.lt_succ_self _))
  case fin =>
    intro s' k1 k2 k3 k4 k5
    exact ⟨.inl ⟨_, _, _, rfl, raisesW_false (by wrow_none_raised), ReadsW.bool true, postW_of (by wrow_shape) (by wtm_val) (by str_meet; first | done | w_fin), unshared_nil⟩, law_old KX k1 k2 k3, k4, k5⟩
  case main =>
    intro S c e1 e2 hK e4 e5 e6 hE hfz hfr hel O
    subst e4 e5
    clear F N0 X0 hd1 hd2 hd3 hD hcd hL K0
    try clear KX Y
    try clear G
    try clear X V T
    dsimp only at hE ⊢
    (with_reducible rename List Int => ns)
    have hlen2 : ns.length ≤ 63 := by omega
    have hsz : S.sv.length < 1000 := by rw [hI.length]; omega
    obtain ⟨kd0, e0, k00, k01⟩ := mod_ex (lawAt ns 0) (q := 3) (by decide)
    obtain ⟨wy, e1', wy0, wy1⟩ := mod_ex (lawAt ns 1) (q := 5) (by decide)
    obtain ⟨kd, hkd⟩ : ∃ kd, kd = if wy > 2 then (if 1 > kd0 then 1 else kd0) else kd0 := ⟨_, rfl⟩
    have kd_0 : 0 ≤ kd := by rw [hkd]; split <;> (try split) <;> omega
    have kd_3 : kd < 3 := by rw [hkd]; split <;> (try split) <;> omega
    obtain ⟨M, hM⟩ : ∃ M : Int, M = if wy < 3 then 10 else 5 := ⟨_, rfl⟩
    have M0 : 0 < M := by rw [hM]; split <;> omega
    have M10 : M ≤ 10 := by rw [hM]; split <;> omega
    have Mne : M ≠ 0 := by omega
    obtain ⟨i2, e2', i20, i21⟩ := mod_ex (lawAt ns 2) M0
    obtain ⟨p, hp, hv2, hp5⟩ := prime_at2 i20 (by omega)
    have g0 : decide (0 ≤ i2) = true := decide_eq_true i20
    have g1 : decide (i2 < 1000) = true := decide_eq_true (by omega)
    obtain ⟨p2, p32⟩ := prime2_rng hp
    have pne : (p : Int) ≠ 0 := by omega
    obtain ⟨el, hKd⟩ := kd2_ex hK e6 (q := (p : Int)) (by omega) (by omega) (by omega) (pfiOk2 hp) kd_0 kd_3
    repeat ((fail_if_success (with_reducible show EvS _ _ _ (Expr.IfExp _ _ _ _) _ _)); wtm_at "sy")
    refine ev_cut1 (.int kd) ?_ ?_
    · repeat wtm_at "sy"
      by_cases wq : wy > 2
      · refine ite_pos (decide_eq_true wq) ?_
        repeat wtm_at "sy"
        exact ⟨by rw [hkd, if_pos wq], rfl⟩
      · refine ite_neg (by simpa using wq) ?_
        repeat wtm_at "sy"
        exact ⟨by rw [hkd, if_neg wq], rfl⟩
    repeat ((fail_if_success (with_reducible show EvS _ _ _ (Expr.IfExp _ _ _ _) _ _)); wtm_at "sy")
    refine ev_cut1 (.int M) ?_ ?_
    · repeat wtm_at "sy"
      by_cases wq : wy < 3
      · refine ite_pos (decide_eq_true wq) ?_
        repeat wtm_at "sy"
        exact ⟨by rw [hM, if_pos wq], rfl⟩
      · refine ite_neg (by simpa using wq) ?_
        repeat wtm_at "sy"
        exact ⟨by rw [hM, if_neg wq], rfl⟩
    repeat ((fail_if_success (with_reducible show EvS _ _ _ (Expr.IfExp _ _ _ _) _ _)); wtm_at "sy")
    refine ev_cut1 (.int (manyN p : Int)) ?_ ?_
    · repeat wtm_at "sy"
      have ep : Int.fmod (p : Int) 4 = ((p % 4 : Nat) : Int) := by rw [Int.fmod_eq_emod_of_nonneg _ (by omega)]; rfl
      by_cases wq : p % 4 = 1
      · refine ite_pos (by rw [ep, wq]; rfl) ?_
        repeat wtm_at "sy"
        exact ⟨by unfold manyN; rw [if_pos wq]; exact congrArg V.int (by omega), rfl⟩
      · refine ite_neg (by rw [ep]; simp; omega) ?_
        repeat wtm_at "sy"
        exact ⟨by unfold manyN; rw [if_neg wq]; exact congrArg V.int (by omega), rfl⟩
    repeat ((fail_if_success (with_reducible show StS _ _ (Stmt.Assign [_] (Expr.ListComp _ _ _ _) _) _ _)); wtm_at "sy")
    have hR : RngOk p := ⟨by omega⟩
    refine' st_c1 O hfz hel ?hsw ?hclos ?hcell ?hk ?hnames ?hs hE ?hy ?hyc ?_
    case hsw => simp only [*]; rfl
    case hclos => simp only [*]; rfl
    case hcell => decide
    case hk => rfl
    case hnames => decide
    case hs => intro _; rfl
    case hy => rfl
    case hyc => rfl
    repeat ((fail_if_success (with_reducible show TgOk _ _ _ ∧ _)); wtm_at "sy")
    refine ⟨.inl ⟨_, _, rfl, rfl, tg_rng _ _ _⟩, ?_⟩
    have fm0 : ∀ i : Nat, Int.fmod (1 + (0 + (i : Int) * 1) * (0 + (i : Int) * 1)) (p : Int) = (((1 + i * i) % p : Nat) : Int) := fun i => by
      rw [Int.fmod_eq_emod_of_nonneg _ (by omega)]
      simp
    refine comp_l (l := List.range p) (fun i => if ((1 + i * i) % p != 0) = true then [V.int (i : Int)] else []) (fun i hi => ⟨(1 + i * i) % p != 0, ?_, ?_⟩) ?_ ?_
    · intro c' E' Z' O'
      have E' := E'.trans hE
      have hi := List.mem_range.mp hi
      repeat wtm_at "sy"
      rw [fm0]
      exact ⟨ne0_cast _, _, (List.append_nil _).symm⟩
    · have hi := List.mem_range.mp hi
      by_cases hb : ((1 + i * i) % p != 0) = true
      · rw [if_pos hb]
        refine ⟨_, if_pos hb, ?_⟩
        intro c' E' Z' O'
        have E' := E'.trans hE
        repeat wtm_at "sy"
        exact fzk_v rfl (List.append_nil _).symm (congrArg V.int (by omega))
      · rw [if_neg hb]
        exact if_neg hb
    · rw [fm_filter]
      simp only [List.length_map]
      exact Nat.le_of_lt (Nat.lt_of_lt_of_le (slopesN_len hp).2 (by decide))
    rw [fm_filter (fun (i : Nat) => (1 + i * i) % p != 0) fun (i : Nat) => V.int (i : Int)]
    obtain ⟨sl0, sl1⟩ := slopesN_len hp
    obtain ⟨j3, e3, j30, j31, t, ht, hv3⟩ := slope_at hp (lawAt ns 3)
    obtain ⟨j4, e4', j40, j41, u, hu, hv4⟩ := slope_at hp (lawAt ns 4)
    have slen : (slopesN p).length < 1000 := by omega
    have slne : ((slopesN p).length : Int) ≠ 0 := by omega
    obtain ⟨tp, tn⟩ := slopesN_mem ht
    obtain ⟨up, un⟩ := slopesN_mem hu
    have f1 : Int.fmod 1 (p : Int) = 1 := fm_id (by decide) (by omega)
    have ft : Int.fmod (t : Int) (p : Int) = t := fm_id (by omega) (by omega)
    obtain ⟨nt, fnt, nt0, nt1⟩ := mod_ex (0 - (t : Int)) (q := (p : Int)) (by omega)
    obtain ⟨N', e5, N0', N1'⟩ := mod_ex (lawAt ns 5) (q := 61) (by decide)
    obtain ⟨N, rfl⟩ : ∃ N : Nat, N' = N := ⟨N'.toNat, by omega⟩
    have hX := pt_in (t := t) hp
    have hY := pt_in (t := u) hp
    show seqK S c _ _ .next (setL _ (.flst (intsV (slopesN p))) _)
    repeat ((fail_if_success (with_reducible show SubT _ _ _ _ _ _ _ _)); wtm_at "sy")
    wtm_at "sy"
    repeat ((fail_if_success (with_reducible show SubT _ _ _ _ _ _ _ _)); wtm_at "sy")
    wtm_at "sy"
    have hX2 : InQ (p : Int) ((pt p t).1, (pt p t).2) := hX
    repeat wtm_at "sy"
    refine ite_neg (by simp) ?_
    repeat wtm_at "sy"
    have hXa := hX.1.1
    have hXb := hX.1.2
    have hXc := hX.2.1
    have hXd := hX.2.2
    have hYa := hY.1.1
    have hYb := hY.1.2
    have hYc := hY.2.1
    have hYd := hY.2.2
    have fY1 : Int.fmod (pt p u).1 (p : Int) = (pt p u).1 := fm_id hYa hYb
    have fY2 : Int.fmod (pt p u).2 (p : Int) = (pt p u).2 := fm_id hYc hYd
    by_cases w0 : wy = 0
    · refine ite_pos (by simp [w0]) ?_
      have hMul : InQ (p : Int) ((mulM p (pt p t) (pt p u)).1, (mulM p (pt p t) (pt p u)).2) := ⟨⟨fm_lo _ (by omega), fm_hi _ (by omega)⟩, fm_lo _ (by omega), fm_hi _ (by omega)⟩
      obtain ⟨s0, hs0, s00, s01⟩ := mod_ex (((t : Int) + u) * ((Builtin.powMod (Int.fmod (1 - (t : Int) * u) p % (p : Int)).toNat ((p : Int) - 2).toNat (p : Int).toNat : Nat) : Int)) (q := (p : Int)) (by omega)
      obtain ⟨s1, rfl⟩ : ∃ s1 : Nat, s0 = s1 := ⟨s0.toNat, by omega⟩
      have s1p : s1 < p := by omega
      repeat ((fail_if_success (with_reducible show EvS _ _ _ (Expr.IfExp _ _ _ _) _ _)); wtm_at "sy")
      refine ev_cutN [.int (due0 p t u).1, .int (due0 p t u).2] ?_ ?_
      · repeat wtm_at "sy"
        by_cases hr : Int.fmod (1 - (t : Int) * u) p = 0
        · refine ite_pos (by rw [hr]; rfl) ?_
          have hd : due0 p t u = ((p : Int) - 1, 0) := if_pos hr
          repeat wtm_at "sy"
          rw [hd]
          exact ⟨rfl, rfl⟩
        · refine ite_neg (by simpa using hr) ?_
          have hd : due0 p t u = pt p s1 := by
            unfold due0
            rw [if_neg hr, hs0]; rfl
          repeat wtm_at "sy"
          rw [hd]
          exact ⟨rfl, rfl⟩
      repeat wtm_at "sy"
      exact congrArg (fun b => Fl.ret (V.bool b)) (decide_eq_true (by rw [way0 hp ht hu]))
    refine ite_neg (by simpa using w0) ?_
    repeat wtm_at "sy"
    have hq1 : (1 : Int) < (p : Int) := by omega
    have hPN : InQ (p : Int) ((powM p N (pt p t)).1, (powM p N (pt p t)).2) := powM_in hq1 _ _
    by_cases w1 : wy = 1
    · refine ite_pos (by simp [w1]) ?_
      have hIv : InQ (p : Int) ((pt p t).1, Int.fmod (0 - (pt p t).2) p) := inQ_of hXa hXb (fm_lo _ (by omega)) (fm_hi _ (by omega))
      repeat ((fail_if_success (with_reducible show CallS _ _ (V.old (Value.ref 493)) _ _ _)); wtm_at "sy")
      refine law_turn hK hfz O (by omega) N (by omega) rfl (by omega) (by omega) hXa hXb hXc hXd ?_
      repeat wtm_at "sy"
      refine ite_pos (decide_eq_true (way1L hp ht N)) ?_
      repeat ((fail_if_success (with_reducible show MthS _ _ _ _ _ _)); wtm_at "sy")
      refine kx_inv hKd hp hfz O (by omega) ht ?_
      repeat wtm_at "sy"
      exact congrArg (fun b => Fl.ret (V.bool b)) (decide_eq_true rfl)
    refine ite_neg (by simpa using w1) ?_
    repeat wtm_at "sy"
    by_cases w2 : wy = 2
    · refine ite_pos (by simp [w2]) ?_
      obtain ⟨mn, mn1⟩ := manyN_lt hp
      have hcnt : ((manyN p : Int) + (N : Int)) = ((manyN p + N : Nat) : Int) := by omega
      have hPM : InQ (p : Int) ((powM p (manyN p) (pt p t)).1, (powM p (manyN p) (pt p t)).2) := powM_in hq1 _ _
      have hPMN : InQ (p : Int) ((powM p (manyN p + N) (pt p t)).1, (powM p (manyN p + N) (pt p t)).2) := powM_in hq1 _ _
      repeat ((fail_if_success (with_reducible show MthS _ _ _ _ _ _)); wtm_at "sy")
      refine kx_one hKd hp hfz O (by omega) hX ?_
      repeat wtm_at "sy"
      refine ite_pos (by rw [way2N hp ht]; rfl) ?_
      repeat wtm_at "sy"
      exact congrArg (fun b => Fl.ret (V.bool b)) (by rw [way2b hp ht N, beq_self_eq_true, beq_self_eq_true]; rfl)
    refine ite_neg (by simpa using w2) ?_
    have hp5 := hp5 (by have : M = 5 := by rw [hM, if_neg (by omega)]
                        omega)
    have kdne : kd ≠ 0 := by rw [hkd, if_pos (by omega)]; split <;> omega
    repeat ((fail_if_success (with_reducible show StS _ _ (Stmt.Assign [_] (Expr.BinOp (Expr.ListComp _ _ _ _) _ _ _) _) _ _)); wtm_at "sy")
    wtm_at "sy"
    refine ev_fg hfz hel ?_
    wtm_at "sy"
    refine' ev_c0 O hfz hel ?hclos ?hcell ?hk ?hnames ?hs ?_
    case hclos => simp only [*]; rfl
    case hcell => decide
    case hk => rfl
    case hnames => decide
    case hs => intro _; rfl
    repeat ((fail_if_success (with_reducible show TgOk _ _ _ ∧ _)); wtm_at "sy")
    refine ⟨.inl ⟨_, _, rfl, rfl, tg_val _⟩, ?_⟩
    rw [List.map_map]
    refine comp_l (fun i => [pairL (pt p i)]) (fun i hi => ⟨_, rfl, ?_⟩) ?_ ?_
    · obtain ⟨ip, inz⟩ := slopesN_mem hi
      intro c' E' Z' O'
      have E' := E'.trans hE
      repeat wtm_at "sy"
      exact fzk_l (j := 0) rfl rfl rfl rfl rfl
    · rw [fm_single]
      simp only [List.length_map]
      omega
    rw [fm_single]
    repeat wtm_at "sy"
    refine ⟨rfl, ⟨_, rfl⟩, _, .lst (Nat.le_of_ble_eq_true rfl) rfl (Fzs.append (.cons (.lst (Nat.le_of_ble_eq_true rfl) rfl (Fzs.keep rfl)) .nil) (Fzs.keep (noLsts_pts p))), ?_⟩
    rw [pts_map]
    repeat wtm_at "sy"
    by_cases w3 : wy = 3
    · refine ite_pos (by simp [w3]) ?_
      repeat ((fail_if_success (with_reducible show StS _ _ (Stmt.Assign [_] (Expr.ListComp _ _ _ _) _) _ _)); wtm_at "sy")
      refine' st_c2 O hfz hel ?hsw ?hclos ?hcell ?hk ?hnames ?hs ?hs2 ?hx2 hE ?hy ?hyc ?_
      case hsw => simp only [*]; rfl
      case hclos => simp only [*]; rfl
      case hcell => decide
      case hk => rfl
      case hnames => decide
      case hs => intro _; rfl
      case hs2 => intro _ _; rfl
      case hx2 => rfl
      case hy => rfl
      case hyc => rfl
      repeat ((fail_if_success (with_reducible show TgOk _ _ _ ∧ _)); wtm_at "sy")
      refine ⟨.inl ⟨_, _, rfl, rfl, tg_rng _ _ _⟩, ?_⟩
      refine comp_l (l := List.range p) (fun x => (List.range p).flatMap fun (y : Nat) => if (Int.fmod ((0 + (x : Int) * 1) * (0 + (x : Int) * 1) + (0 + (y : Int) * 1) * (0 + (y : Int) * 1)) p == 1) = true then [pairL ((0 + (x : Int) * 1), (0 + (y : Int) * 1))] else []) (fun x hx => ⟨p, (p : Int), _, (rng_small p hR.h).1, (rng_small p hR.h).2, rfl, rfl, ?_, fun y hy => ⟨Int.fmod ((0 + (x : Int) * 1) * (0 + (x : Int) * 1) + (0 + (y : Int) * 1) * (0 + (y : Int) * 1)) p == 1, ?_, ?_⟩⟩) ?_ ?_
      · intro c' E' Z' O'
        have E' := E'.trans hE
        repeat wtm_at "sy"
        exact fzk_v rfl (List.append_nil _).symm rfl
      · intro c' E' Z' O'
        have E' := E'.trans hE
        have hx := List.mem_range.mp hx
        repeat wtm_at "sy"
        exact ⟨rfl, _, (List.append_nil _).symm⟩
      · split
        · refine ⟨_, rfl, ?_⟩
          intro c' E' Z' O'
          have E' := E'.trans hE
          repeat wtm_at "sy"
          exact fzk_l (j := 0) rfl rfl rfl rfl rfl
        · rfl
      · rw [circ_map, List.length_map, (way3N hp5).2]
        have := (manyN_lt hp).1
        omega
      rw [circ_map]
      repeat ((fail_if_success (with_reducible show StS _ _ (Stmt.Assign [_] (Expr.BinOp (Expr.ListComp _ _ _ _) _ _ _) _) _ _)); wtm_at "sy")
      wtm_at "sy"
      refine ev_fg hfz hel ?_
      wtm_at "sy"
      refine' ev_c0 O hfz hel ?hclos ?hcell ?hk ?hnames ?hs ?_
      case hclos => simp only [*]; rfl
      case hcell => decide
      case hk => rfl
      case hnames => decide
      case hs => intro _; rfl
      repeat ((fail_if_success (with_reducible show TgOk _ _ _ ∧ _)); wtm_at "sy")
      refine ⟨.inl ⟨_, _, rfl, rfl, tg_val _⟩, ?_⟩
      rw [List.map_map]
      refine comp_l (fun i => [pairL (pt p i)]) (fun i hi => ⟨_, rfl, ?_⟩) ?_ ?_
      · obtain ⟨ip, inz⟩ := slopesN_mem hi
        have fi : Int.fmod (i : Int) (p : Int) = i := fm_id (by omega) (by omega)
        obtain ⟨ni, fni, ni0, ni1⟩ := mod_ex (0 - (i : Int)) (q := (p : Int)) (by omega)
        have hI2 : InQ (p : Int) ((pt p i).1, (pt p i).2) := pt_in hp
        intro c' E' Z' O'
        have E' := E'.trans hE
        repeat wtm_at "sy"
        exact fzk_l (j := 2) rfl rfl rfl rfl rfl
      · rw [fm_single]
        simp only [List.length_map]
        omega
      rw [fm_single]
      repeat wtm_at "sy"
      refine ⟨rfl, ⟨_, rfl⟩, _, .lst (Nat.le_of_ble_eq_true rfl) rfl (Fzs.append (.cons (.lst (Nat.le_of_ble_eq_true rfl) rfl (Fzs.keep rfl)) .nil) (Fzs.keep (noLsts_pts p))), ?_⟩
      rw [pts_map]
      repeat ((fail_if_success (with_reducible show CallS _ _ (V.old (Value.builtin "len")) _ _ _)); wtm_at "sy")
      refine kx_lenP (by rw [(way3N hp5).2]; have := (manyN_lt hp).1; omega) ?_
      repeat wtm_at "sy"
      refine ite_pos (by rw [(way3N hp5).2]; exact beq_self_eq_true _) ?_
      repeat ((fail_if_success (with_reducible show CallS _ _ (V.old (Value.builtin "sorted")) _ _ _)); wtm_at "sy")
      refine call_sortedP O (by omega) hfz (ptsN_len hp5).1 (Nat.lt_of_lt_of_le (ptsN_len hp5).2 (by decide)) (way3N hp5).1 ?_
      repeat ((fail_if_success (with_reducible show CmpS _ _ _ _ _ _ _)); wtm_at "sy")
      refine cmp_flfl O (by omega) ?_
      repeat wtm_at "sy"
      exact congrArg (fun b => Fl.ret (V.bool b)) (decide_eq_true rfl)
    refine ite_neg (by simpa using w3) ?_
    have cN1 : Int.fmod (N : Int) 12 = ((N % 12 : Nat) : Int) := by rw [Int.fmod_eq_emod_of_nonneg _ (by omega)]; rfl
    have cN2 : N % 12 < 12 := Nat.mod_lt _ (by decide)
    have cN3 : (1 + ((N % 12 : Nat) : Int)) = ((1 + N % 12 : Nat) : Int) := by omega
    repeat ((fail_if_success (with_reducible show StS _ _ (Stmt.Assign [_] (Expr.ListComp _ _ _ _) _) _ _)); wtm_at "sy")
    refine' st_c1 O hfz hel ?hsw ?hclos ?hcell ?hk ?hnames ?hs hE ?hy ?hyc ?_
    case hsw => simp only [*]; rfl
    case hclos => simp only [*]; rfl
    case hcell => decide
    case hk => rfl
    case hnames => decide
    case hs => intro _; rfl
    case hy => rfl
    case hyc => rfl
    repeat ((fail_if_success (with_reducible show TgOk _ _ _ ∧ _)); wtm_at "sy")
    refine ⟨.inl ⟨_, _, rfl, rfl, tg_val _⟩, ?_⟩
    rw [List.map_map]
    refine comp_l (fun z => if (powM p (1 + N % 12) z == (1, 0)) = true then [pairL z] else []) (fun z hz => ⟨powM p (1 + N % 12) z == (1, 0), ?_, ?_⟩) ?_ ?_
    · intro c' E' Z' O'
      have E' := E'.trans hE
      have hZ := ptsN_in hp5 z hz
      have hPZ : InQ (p : Int) ((powM p (1 + N % 12) z).1, (powM p (1 + N % 12) z).2) := powM_in hq1 _ _
      repeat wtm_at "sy"
      exact ⟨dec2 _, _, rfl⟩
    · split
      · refine ⟨_, rfl, ?_⟩
        intro c' E' Z' O'
        have E' := E'.trans hE
        repeat wtm_at "sy"
        exact fzk_v rfl (List.append_nil _).symm rfl
      · rfl
    · rw [fm_filter, List.length_map]
      have h1 := (ptsN_len hp5).2
      have h2 := List.length_filter_le (fun z => powM p (1 + N % 12) z == (1, 0)) (ptsN p)
      omega
    rw [fm_filter]
    obtain ⟨mn, mn1⟩ := manyN_lt hp
    have flen : ((ptsN p).filter fun z => powM p (1 + N % 12) z == (1, 0)).length < 1000 := by
      have h1 := (ptsN_len hp5).2
      have h2 := List.length_filter_le (fun z => powM p (1 + N % 12) z == (1, 0)) (ptsN p)
      omega
    repeat ((fail_if_success (with_reducible show CallS _ _ (V.old (Value.builtin "len")) _ _ _)); wtm_at "sy")
    refine kx_lenP flen ?_
    repeat ((fail_if_success (with_reducible show CallS _ _ (V.old (Value.ref 500)) _ _ _)); wtm_at "sy")
    refine law_commonE hK hfz O (by omega) cN3 rfl (by omega) (by omega) ?_
    repeat wtm_at "sy"
    exact congrArg (fun b => Fl.ret (V.bool b)) (beq_iff_eq.mpr (by rw [way4N hp5 cN2])))

end

end Mine
end

theorem PySem.Challenge.cw_bw0043_02_holds : PySem.Challenge.rw_bw0043_02.Holds :=
  Mine.x
