import PyProof.Rows.All
import Wide.All
import OpenK.AllK
import Wide.FinOn
import PySem.Challenge.RW_wu0038_01
open PySem PySem.W PySem.Spec PySem.Calls PyProof.Rows
set_option Elab.async false
set_option maxRecDepth 100000
set_option maxHeartbeats 4000000
set_option linter.all false
/-! part WuHead -/
namespace Mine
set_option maxRecDepth 100000 in
set_option maxHeartbeats 8000000 in
set_option synthInstance.maxSize 1 in
open_top hd for PySem.Challenge.rw_wu0038_01
end Mine
namespace Mine
local macro_rules | `(tactic| walk_at $s:str) => `(tactic| k_extra $s)
/-! part WuBase -/
noncomputable section
theorem kfill : Mine.hd.heap_39 = Mine.hd.heap_39 ∧ PySem.Challenge.rw_wu0038_01 = PySem.Challenge.rw_wu0038_01 := by
  k_fill
  exact ⟨rfl, rfl⟩
/-- what a contract asks of the place where the call stands -/
structure At (w : World) (p : Program) (loose : List Str) (mean : ExcName → Option Value) (mg mb : Str → Option Value) (A : Around) (dk : Nat) (h : Heap) : Prop where
  hh : A.handled = none
  dep : A.depth + dk < recursionLimit
  uni : A.units + 8 * dk + 100 < cLine
  fr : ∃ A₀ base env outer h₀ L m, Below A₀ base outer h₀ ∧ Fr h₀ L h m ∧ (Mine.hd.heap_39 w.params).In h₀ ∧ Top p loose mean mg mb h₀ ∧ A.frames = some (env :: outer) ∧ env.frame = some L ∧ env.scope.kind = .function
/-- off a place: each address of a ledger -/
def OffL (I : Addr) : List (Addr × Obj) → Prop
  | [] => True
  | p :: r => @Ne Nat p.1 I ∧ OffL I r
theorem offL {I : Addr} : ∀ {l : List (Addr × Obj)}, (∀ p ∈ l, p.1 ≠ I) → OffL I l
  | [], _ => trivial
  | _ :: _, h => ⟨h _ (.head _), offL fun p hp => h p (.tail _ hp)⟩
theorem sub_at {α : Type} {all sub : List α} (ix : List Nat) (h : ix.map (fun i => all[i]?) = sub.map some) : ∀ z ∈ sub, z ∈ all := fun z hz => by
  have h1 : some z ∈ sub.map some := List.mem_map_of_mem hz
  rw [← h] at h1
  obtain ⟨i, _, hi⟩ := List.mem_map.mp h1
  exact List.mem_of_getElem? hi
theorem sub_nil {α : Type} {all : List α} : ∀ z ∈ ([] : List α), z ∈ all := fun _ h => nomatch h
theorem sub_cons {α : Type} {a : α} {sub all : List α} (h : a ∈ all) (t : ∀ z ∈ sub, z ∈ all) : ∀ z ∈ a :: sub, z ∈ all := List.forall_mem_cons.mpr ⟨h, t⟩
theorem offL_mem {I : Addr} (l : List (Addr × Obj)) : OffL I l → ∀ p ∈ l, p.1 ≠ I := by
  induction l with
  | nil => intro _ p hp; cases hp
  | cons a l ih =>
    intro h p hp
    rcases List.mem_cons.mp hp with e | hp
    · rw [e]; exact h.1
    · exact ih h.2 p hp
theorem rest_ok {r : Addr} {rest news : List (Addr × Obj)} (h : ∀ q ∈ rest, q ∈ news) (o : OffL r rest) : ∀ q ∈ rest, q ∈ news ∧ q.1 ≠ r := fun q hq => ⟨h q hq, offL_mem _ o q hq⟩
theorem roomD {dp a k R : Nat} (h : dp + a < R) (hk : k + 1 ≤ a) : dp + 1 + k < R := by omega
theorem roomD2 {dp d k R : Nat} (h : dp + d + 1 < R) (hk : k ≤ d) : dp + 1 + k < R := by omega
theorem roomU {un a x R : Nat} (h : un + a < R) (hk : x + 103 ≤ a) : un + 3 + x + 100 < R := by omega
theorem roomU2 {un d x R : Nat} (h : un + d + 108 < R) (hk : x ≤ d) : un + 3 + x + 100 < R := by omega
/-- what the rest of a block asks of a statement's end, told of any predicate -/
structure TSeq (prog : Program) (w : World) (A : Around) (rest : List Stmt) (env : Env) (Q : Flow → Shared → Prop) (E : Value → Shared → Prop) (T : Flow → Shared → Prop) : Prop where
  next : ∀ s', wpAny (model prog w) A (execs rest env) Q E s' → T .next s'
  ret : ∀ v s', Q (.ret v) s' → T (.ret v) s'
theorem seq_abs {prog : Program} {w : World} {A : Around} {st : Stmt} {rest : List Stmt} {env : Env} {Q : Flow → Shared → Prop} {E : Value → Shared → Prop} {s : Shared} (h : ∀ T, TSeq prog w A rest env Q E T → wpAny (model prog w) A (exec st env) T E s) : wpAny (model prog w) A (execs (st :: rest) env) Q E s :=
  wpAny_execs_cons (h _ ⟨fun _ h => h, fun _ _ h => h⟩)
/-- an end told of any predicate -/
structure AbsQ (Q T : Flow → Shared → Prop) : Prop where
  of : ∀ f s', Q f s' → T f s'
theorem abs_post {prog : Program} {w : World} {A : Around} {t : Sem Flow} {Q : Flow → Shared → Prop} {E : Value → Shared → Prop} {s : Shared} (h : ∀ T, AbsQ Q T → wpAny (model prog w) A t T E s) : wpAny (model prog w) A t Q E s := h Q ⟨fun _ _ h => h⟩
section
variable {prog : Program} {w : World} {p : Program} {loose : List Str} {mean : ExcName → Option Value} {mg mb : Str → Option Value}
theorem At.of {A A₀ : Around} {base h₀ h : Heap} {env : Env} {outer : List Env} {L : Addr} {m : Str → Option Value} {dk : Nat} (B : Below A₀ base outer h₀) (F : Fr h₀ L h m) (X : (Mine.hd.heap_39 w.params).In h₀) (T : Top p loose mean mg mb h₀)
    (hA : A.frames = some (env :: outer)) (hf : env.frame = some L) (hk : env.scope.kind = .function) (hh : A.handled = none) (hd : A.depth + dk < recursionLimit) (hu : A.units + 8 * dk + 100 < cLine) : At w p loose mean mg mb A dk h :=
  ⟨hh, hd, hu, A₀, base, env, outer, h₀, L, m, B, F, X, T, hA, hf, hk⟩
/-- the state behind a call: the heap has grown -/
def Grown (s : Shared) (s' : Shared) : Prop := ∃ h' tk', s' = { s with heap := h', toks := tk' } ∧ s.heap.StaysIn h'
def IntV (R : Int) (_ : Heap) (v : Value) (_ : Heap) : Prop := ∃ t, v = .int R t
def BoolV (R : Bool) (_ : Heap) (v : Value) (_ : Heap) : Prop := v = .bool R
def BytesV (R : Array UInt8) (_ : Heap) (v : Value) (_ : Heap) : Prop := ∃ t, v = .bytes R t
def ListV (R : List Int) (h : Heap) (v : Value) (h' : Heap) : Prop := ∃ D vs c, v = .ref D ∧ h.get? D = none ∧ h'.get? D = some (PySem.W.listOf (List.toArray vs) c) ∧ IntsAre vs R
/-- how a body ends -/
def CEnd (g : Heap) (s : Shared) (P : Heap → Value → Heap → Prop) (v : Value) (s' : Shared) : Prop := ∃ L'' m'' h' tk', s' = { s with heap := h', toks := tk' } ∧ Fr g L'' h' m'' ∧ P s.heap v h'
/-- a contract: the call ends, the heap grows, P of what comes back -/
abbrev Ctr (prog : Program) (w : World) (A : Around) (s : Shared) (f : Addr) (args : List Value) (P : Heap → Value → Heap → Prop) : Prop :=
  wpAny (model prog w) A (call (.ref f) args) (fun v s' => Grown s s' ∧ P s.heap v s'.heap) (fun _ _ => False) s
theorem enter_pure {A : Around} {dk : Nat} {s : Shared} {P : Heap → Value → Heap → Prop} {name qual : Str} {params : Arguments} {body : List Stmt} {scope : Scope} {dV kV doc pm cdv ct oc : Value} {an od : Option Addr} {osl : Array (Option Value)} {f : Addr} {args : List Value} {binds : List (Str × Value)}
    (hat : At w p loose mean mg mb A (dk + 1) s.heap)
    (ho : (Mine.hd.heap_39 w.params).lookup f = some ⟨oc, od, .func (fnOf name qual params body scope dV kV doc pm an cdv ct), osl⟩) (hcd : codeIn (Mine.hd.heap_39 w.params) cdv qual = true)
    (hbind : BindsTo s (fnOf name qual params body scope dV kV doc pm an cdv ct) ⟨args, []⟩ binds) (hloc : ∀ y ∈ binds, scope.names.lookup y.1 = some .local)
    (hco : scope.isCoroutine = false) (hgen : scope.isGenerator = false) (hk : scope.kind = .function) (hcell : ∀ x ∈ scope.names, x.2 ≠ .cell)
    (h : ∀ g L' h₁ env outer base dp un gd, s.heap.StaysIn g → Fr g L' h₁ (fun y => binds.reverse.lookup y) → News g L' h₁ [] → Below { handled := none, depth := dp, frames := some (env :: outer), guards := gd, units := un : Around } base (env :: outer) g → (Mine.hd.heap_39 w.params).In g → Top p loose mean mg mb g →
      dp + dk + 1 < recursionLimit → un + 8 * dk + 108 < cLine →
      wpAny (model prog w) (Around.deeper { handled := none, depth := dp, frames := some (env :: outer), guards := gd, units := un : Around } (envOf qual scope L' f cdv)) (execs body (envOf qual scope L' f cdv))
        (fun fl s' => CEnd g s P (match fl with | .ret v => v | _ => .none) s')
        (fun _ _ => False)
        { s with heap := h₁, toks := s.toks + binds.length }) :
    Ctr prog w A s f args P := by
  obtain ⟨hh, hd, hu, A₀, base, env, outer, h₀, L, m, B, F, X, T, hA, hf, hke⟩ := hat
  obtain ⟨ah, ad, af, ag, au⟩ := A
  simp only at hh hd hu hA
  subst hh hA
  refine wpAny_call ?_
  refine code_defG B F X (N := News.nil) T rfl hf hke ho hcd (by show ad < _; omega) hbind hloc ?_ hco hgen hk hcell
  intro g L' h₁ FG F' N' B' X' T' G'
  have st : s.heap.StaysIn g := fun b o e => G' b o e (fun hm => nomatch hm)
  refine wpAny_mono (h g L' h₁ env outer base ad au ag st F' N' B' X' T' (by omega) (by omega)) (fun fl s' q => ?_) (fun _ _ x => x.elim)
  obtain ⟨L'', m'', h', tk', rfl, F'', q⟩ := q
  exact leaveK_ F'' News.nil fun _ _ => ⟨⟨h', tk', rfl, fun b o e => F''.keep b o (st b o e)⟩, q⟩
theorem cend_int {g h' : Heap} {s : Shared} {L'' : Addr} {m'' : Str → Option Value} {x y : Int} {t : Tok} {tk' : Nat} (F : Fr g L'' h' m'') (e : y = x) : CEnd g s (IntV x) (.int y t) { s with heap := h', toks := tk' } :=
  ⟨L'', m'', h', tk', rfl, F, t, by rw [e]⟩
theorem cend_bool {g h' : Heap} {s : Shared} {L'' : Addr} {m'' : Str → Option Value} {x y : Bool} {tk' : Nat} (F : Fr g L'' h' m'') (e : y = x) : CEnd g s (BoolV x) (.bool y) { s with heap := h', toks := tk' } :=
  ⟨L'', m'', h', tk', rfl, F, by rw [e]; rfl⟩
theorem cend_bytes {g h' : Heap} {s : Shared} {L'' : Addr} {m'' : Str → Option Value} {x y : Array UInt8} {t : Tok} {tk' : Nat} (F : Fr g L'' h' m'') (e : y = x) : CEnd g s (BytesV x) (.bytes y t) { s with heap := h', toks := tk' } :=
  ⟨L'', m'', h', tk', rfl, F, t, by rw [e]⟩
theorem use_int {A : Around} {s : Shared} {f : Addr} {args : List Value} {R : Int} {Q E : Value → Shared → Prop} {h₀ : Heap} {L : Addr} {m : Str → Option Value} {news : List (Addr × Obj)} (C : Ctr prog w A s f args (IntV R)) (F : Fr h₀ L s.heap m) (N : News h₀ L s.heap news)
    (h : ∀ t h' tk', s.heap.StaysIn h' → Fr h₀ L h' m → News h₀ L h' news → Q (.int R t) { s with heap := h', toks := tk' }) : wpAny (model prog w) A (call (.ref f) args) Q E s := by
  refine wpAny_mono C (fun v s' q => ?_) (fun _ _ x => x.elim)
  obtain ⟨⟨h', tk', rfl, st⟩, t, rfl⟩ := q
  exact h t h' tk' st (F.keeps st) (N.grown st)
theorem use_bool {A : Around} {s : Shared} {f : Addr} {args : List Value} {R : Bool} {Q E : Value → Shared → Prop} {h₀ : Heap} {L : Addr} {m : Str → Option Value} {news : List (Addr × Obj)} (C : Ctr prog w A s f args (BoolV R)) (F : Fr h₀ L s.heap m) (N : News h₀ L s.heap news)
    (h : ∀ h' tk', s.heap.StaysIn h' → Fr h₀ L h' m → News h₀ L h' news → Q (.bool R) { s with heap := h', toks := tk' }) : wpAny (model prog w) A (call (.ref f) args) Q E s := by
  refine wpAny_mono C (fun v s' q => ?_) (fun _ _ x => x.elim)
  obtain ⟨⟨h', tk', rfl, st⟩, rfl⟩ := q
  exact h h' tk' st (F.keeps st) (N.grown st)
theorem use_bytes {A : Around} {s : Shared} {f : Addr} {args : List Value} {R : Array UInt8} {Q E : Value → Shared → Prop} {h₀ : Heap} {L : Addr} {m : Str → Option Value} {news : List (Addr × Obj)} (C : Ctr prog w A s f args (BytesV R)) (F : Fr h₀ L s.heap m) (N : News h₀ L s.heap news)
    (h : ∀ t h' tk', s.heap.StaysIn h' → Fr h₀ L h' m → News h₀ L h' news → Q (.bytes R t) { s with heap := h', toks := tk' }) : wpAny (model prog w) A (call (.ref f) args) Q E s := by
  refine wpAny_mono C (fun v s' q => ?_) (fun _ _ x => x.elim)
  obtain ⟨⟨h', tk', rfl, st⟩, t, rfl⟩ := q
  exact h t h' tk' st (F.keeps st) (N.grown st)
theorem use_list {A : Around} {s : Shared} {f : Addr} {args : List Value} {R : List Int} {Q E : Value → Shared → Prop} {h₀ : Heap} {L : Addr} {m : Str → Option Value} {news : List (Addr × Obj)} (C : Ctr prog w A s f args (ListV R)) (F : Fr h₀ L s.heap m) (N : News h₀ L s.heap news)
    (h : ∀ D vs c h' tk', s.heap.StaysIn h' → Fr h₀ L h' m → News h₀ L h' ((D, PySem.W.listOf (List.toArray vs) c) :: news) → (∀ q ∈ news, q.1 ≠ D) → IntsAre vs R → Q (.ref D) { s with heap := h', toks := tk' }) : wpAny (model prog w) A (call (.ref f) args) Q E s := by
  refine wpAny_mono C (fun v s' q => ?_) (fun _ _ x => x.elim)
  obtain ⟨⟨h', tk', rfl, st⟩, D, vs, c, rfl, hn, hD, hi⟩ := q
  have hL : D ≠ L := fun q => by
    obtain ⟨oL, _, _, hL, _⟩ := F.ns
    rw [q, hL] at hn; cases hn
  have h0 : h₀.get? D = none := by
    cases q : h₀.get? D with
    | none => rfl
    | some o => rw [F.keep _ _ q] at hn; cases hn
  refine h D vs c h' tk' st (F.keeps st) (fun q hq => ?_) (fun q hq e => ?_) hi
  · rcases List.mem_cons.mp hq with rfl | hq
    · exact ⟨hD, hL, h0⟩
    · exact N.grown st q hq
  · have := (N q hq).1
    rw [e, hn] at this; cases this
end
end
/-! part WuSmall -/
noncomputable section
open Builtin in
theorem gives_bytes_contains (b : Array UInt8) (n : Int) (t u : Tok) (h0 : 0 ≤ n) (h1 : n < 256) : Gives («bytes.__contains__» ⟨[.bytes b t, .int n u], []⟩) (.val (.bool (b.contains n.toNat.toUInt8))) := by
  refine .of_wp fun M A E s Q hq => ?_
  show wpAny M A (Bytes.containsIn "bytes.__contains__" (.bytes b t) (.int n u) >>= fun r => ret (.bool r)) _ E s
  unfold Bytes.containsIn
  refine wpAny_bind (wpAny_bind (wpAny_attempt (wpAny_of_eq (a := n) rfl ?_)))
  refine wpAny_bind (wpAny_of_eq KBy.buffer_eq ?_)
  show wpAny M A (if (decide (n < 0) || decide (n ≥ 256)) = true then _ else _) _ E s
  rw [if_neg (by simp; omega)]
  exact wpAny_pure (wpAny_pure ⟨_, rfl, hq⟩)
section
variable {prog : Program} {w : World} {A : Around} {E : Value → Shared → Prop} {s : Shared}
theorem in_bytes {b : Array UInt8} {n : Int} {t u : Tok} {Q : Value → Shared → Prop} (h0 : 0 ≤ n) (h1 : n < 256) (h : Q (.bool (b.contains n.toNat.toUInt8)) s) : wpAny (model prog w) A (compareOp .In (.int n u) (.bytes b t)) Q E s :=
  in_gives (typeIs_bytes s b t) FB.slot_bytes_contains FB.entry_bytes_contains (FB.args_bytes_contains_2 _ _) (gives_bytes_contains b n t u h0 h1) h
end
theorem lay_Small_1 : True := by
  w_top off
  k_with_none
  (k_with "MY enter" => (
  intro _ _ _ _ _ _ _ _ _ _ _ _ _ _ _ _ _
  (try dsimp only)
  k_fold))
  (k_with "MY steps" => w_strict (repeat' (first
  | (k_unfold; (try dsimp only))
  | walk1
  | (dsimp only; walk1)
  | (dsimp only; k_unfold; (try dsimp only))
  | (leave1; walk_say "STEP leave1"; try dsimp only)
  | fail "no step")))
  trivial
section
variable {prog : Program} {w : World} {p : Program} {loose : List Str} {mean : ExcName → Option Value} {mg mb : Str → Option Value}
theorem xor_c {A : Around} {s : Shared} {a b : Int} {ta tb : Tok} (hat : At w p loose mean mg mb A 1 s.heap) :
    Ctr prog w A s 49 [.int a ta, .int b tb] (IntV (Builtin.bitXor a b)) := by
  refine enter_pure (dk := 0) (binds := [(Str.ofString "a", .int a ta), (Str.ofString "b", .int b tb)]) hat (by k_is) (by k_is) (BindsTo.of_eq rfl) (locs rfl) rfl rfl rfl (by decide) ?_
  k_extra "MY enter"
  k_extra "MY steps"
  all_goals exact cend_int (by assumption) rfl
theorem and_c {A : Around} {s : Shared} {a b : Int} {ta tb : Tok} (hat : At w p loose mean mg mb A 1 s.heap) :
    Ctr prog w A s 28 [.int a ta, .int b tb] (IntV (Builtin.bitAnd a b)) := by
  refine enter_pure (dk := 0) (binds := [(Str.ofString "a", .int a ta), (Str.ofString "b", .int b tb)]) hat (by k_is) (by k_is) (BindsTo.of_eq rfl) (locs rfl) rfl rfl rfl (by decide) ?_
  k_extra "MY enter"
  k_extra "MY steps"
  all_goals exact cend_int (by assumption) rfl
theorem floordiv_c {A : Around} {s : Shared} {a b : Int} {ta tb : Tok} (hat : At w p loose mean mg mb A 1 s.heap) (h0 : 0 ≤ a) (h1 : a < 2 ^ 64) (hb : 0 < b) (hb2 : b < 2 ^ 20) :
    Ctr prog w A s 35 [.int a ta, .int b tb] (IntV (a / b)) := by
  refine enter_pure (dk := 0) (binds := [(Str.ofString "a", .int a ta), (Str.ofString "b", .int b tb)]) hat (by k_is) (by k_is) (BindsTo.of_eq rfl) (locs rfl) rfl rfl rfl (by decide) ?_
  k_extra "MY enter"
  k_extra "MY steps"
  all_goals exact cend_int (by assumption) (Int.fdiv_eq_ediv_of_nonneg _ (by omega))
theorem lshift_c {A : Around} {s : Shared} {a n : Int} {ta tb : Tok} (hat : At w p loose mean mg mb A 1 s.heap) (h0 : 0 ≤ a) (h1 : a < 2 ^ 64) (hb : 0 ≤ n) (hb2 : n < 1000) :
    Ctr prog w A s 42 [.int a ta, .int n tb] (IntV (a * 2 ^ n.toNat)) := by
  refine enter_pure (dk := 0) (binds := [(Str.ofString "a", .int a ta), (Str.ofString "b", .int n tb)]) hat (by k_is) (by k_is) (BindsTo.of_eq rfl) (locs rfl) rfl rfl rfl (by decide) ?_
  k_extra "MY enter"
  k_extra "MY steps"
  all_goals exact cend_int (by assumption) rfl
theorem contains_c {A : Around} {s : Shared} {a : Array UInt8} {n : Int} {ta tb : Tok} (hat : At w p loose mean mg mb A 1 s.heap) (h0 : 0 ≤ n) (h1 : n < 256) :
    Ctr prog w A s 56 [.bytes a ta, .int n tb] (BoolV (a.contains n.toNat.toUInt8)) := by
  refine enter_pure (dk := 0) (binds := [(Str.ofString "a", .bytes a ta), (Str.ofString "b", .int n tb)]) hat (by k_is) (by k_is) (BindsTo.of_eq rfl) (locs rfl) rfl rfl rfl (by decide) ?_
  k_extra "MY enter"
  k_extra "MY steps"
  refine in_bytes h0 h1 ?_
  k_extra "MY steps"
  all_goals exact cend_bool (by assumption) rfl
theorem getitem_c {A : Around} {s : Shared} {a : List UInt8} {n : Int} {ta tb : Tok} (hat : At w p loose mean mg mb A 1 s.heap) (h0 : 0 ≤ n) (h1 : n < a.length) (h2 : a.length ≤ 1000) :
    Ctr prog w A s 77 [.bytes a.toArray ta, .int n tb] (IntV ((a.getD n.toNat 0).toNat : Int)) := by
  refine enter_pure (dk := 0) (binds := [(Str.ofString "a", .bytes a.toArray ta), (Str.ofString "b", .int n tb)]) hat (by k_is) (by k_is) (BindsTo.of_eq rfl) (locs rfl) rfl rfl rfl (by decide) ?_
  k_extra "MY enter"
  k_extra "MY steps"
  all_goals exact cend_int (by assumption) rfl
theorem not_c {A : Around} {s : Shared} {a : Int} {ta : Tok} (hat : At w p loose mean mg mb A 1 s.heap) :
    Ctr prog w A s 21 [.int a ta] (BoolV (a == 0)) := by
  refine enter_pure (dk := 0) (binds := [(Str.ofString "a", .int a ta)]) hat (by k_is) (by k_is) (BindsTo.of_eq rfl) (locs rfl) rfl rfl rfl (by decide) ?_
  k_extra "MY enter"
  k_extra "MY steps"
  all_goals exact cend_bool (by assumption) (by simp [bne])
end
end
/-! part WuAp -/
noncomputable section
theorem lay_Ap_1 : True := by
  w_top off
  k_with_none
  (k_with "MY enter" => (
  intro _ _ _ _ _ _ _ _ _ _ _ _ _ _ _ _ _
  (try dsimp only)
  k_fold))
  (k_with "MY stop" => (
  (fail_if_success (with_reducible show wpAny _ _ (exec (Stmt.While _ _ _ _) _) _ _ _));
  (fail_if_success (with_reducible show wpAny _ _ (exec (Stmt.For _ _ _ _ _) _) _ _ _))))
  (k_with "MY steps" => w_strict (repeat' (k_extra "MY stop"; first
  | (k_unfold; (try dsimp only))
  | walk1
  | (dsimp only; walk1)
  | (dsimp only; k_unfold; (try dsimp only))
  | (leave1; walk_say "STEP leave1"; try dsimp only)
  | fail "no step")))
  trivial
theorem expose1 {h₀ h : Heap} {L : Addr} {m : Str → Option Value} {x1 : Str} {v1 : Value} (F : Fr h₀ L h m) (e1 : m x1 = some v1) :
    Fr h₀ L h (fun y => if y = x1 then some v1 else m y) := by
  have : (fun y => if y = x1 then some v1 else m y) = m := by
    funext y
    by_cases h1 : y = x1
    · subst h1; simp [*]
    simp [*]
  rw [this]; exact F
theorem expose2 {h₀ h : Heap} {L : Addr} {m : Str → Option Value} {x1 x2 : Str} {v1 v2 : Value} (F : Fr h₀ L h m) (e1 : m x1 = some v1) (e2 : m x2 = some v2) :
    Fr h₀ L h (fun y => if y = x1 then some v1 else if y = x2 then some v2 else m y) := by
  have : (fun y => if y = x1 then some v1 else if y = x2 then some v2 else m y) = m := by
    funext y
    by_cases h1 : y = x1
    · subst h1; simp [*]
    by_cases h2 : y = x2
    · subst h2; simp [*]
    simp [*]
  rw [this]; exact F
theorem expose3 {h₀ h : Heap} {L : Addr} {m : Str → Option Value} {x1 x2 x3 : Str} {v1 v2 v3 : Value} (F : Fr h₀ L h m) (e1 : m x1 = some v1) (e2 : m x2 = some v2) (e3 : m x3 = some v3) :
    Fr h₀ L h (fun y => if y = x1 then some v1 else if y = x2 then some v2 else if y = x3 then some v3 else m y) := by
  have : (fun y => if y = x1 then some v1 else if y = x2 then some v2 else if y = x3 then some v3 else m y) = m := by
    funext y
    by_cases h1 : y = x1
    · subst h1; simp [*]
    by_cases h2 : y = x2
    · subst h2; simp [*]
    by_cases h3 : y = x3
    · subst h3; simp [*]
    simp [*]
  rw [this]; exact F
theorem expose4 {h₀ h : Heap} {L : Addr} {m : Str → Option Value} {x1 x2 x3 x4 : Str} {v1 v2 v3 v4 : Value} (F : Fr h₀ L h m) (e1 : m x1 = some v1) (e2 : m x2 = some v2) (e3 : m x3 = some v3) (e4 : m x4 = some v4) :
    Fr h₀ L h (fun y => if y = x1 then some v1 else if y = x2 then some v2 else if y = x3 then some v3 else if y = x4 then some v4 else m y) := by
  have : (fun y => if y = x1 then some v1 else if y = x2 then some v2 else if y = x3 then some v3 else if y = x4 then some v4 else m y) = m := by
    funext y
    by_cases h1 : y = x1
    · subst h1; simp [*]
    by_cases h2 : y = x2
    · subst h2; simp [*]
    by_cases h3 : y = x3
    · subst h3; simp [*]
    by_cases h4 : y = x4
    · subst h4; simp [*]
    simp [*]
  rw [this]; exact F
theorem expose5 {h₀ h : Heap} {L : Addr} {m : Str → Option Value} {x1 x2 x3 x4 x5 : Str} {v1 v2 v3 v4 v5 : Value} (F : Fr h₀ L h m) (e1 : m x1 = some v1) (e2 : m x2 = some v2) (e3 : m x3 = some v3) (e4 : m x4 = some v4) (e5 : m x5 = some v5) :
    Fr h₀ L h (fun y => if y = x1 then some v1 else if y = x2 then some v2 else if y = x3 then some v3 else if y = x4 then some v4 else if y = x5 then some v5 else m y) := by
  have : (fun y => if y = x1 then some v1 else if y = x2 then some v2 else if y = x3 then some v3 else if y = x4 then some v4 else if y = x5 then some v5 else m y) = m := by
    funext y
    by_cases h1 : y = x1
    · subst h1; simp [*]
    by_cases h2 : y = x2
    · subst h2; simp [*]
    by_cases h3 : y = x3
    · subst h3; simp [*]
    by_cases h4 : y = x4
    · subst h4; simp [*]
    by_cases h5 : y = x5
    · subst h5; simp [*]
    simp [*]
  rw [this]; exact F
theorem expose6 {h₀ h : Heap} {L : Addr} {m : Str → Option Value} {x1 x2 x3 x4 x5 x6 : Str} {v1 v2 v3 v4 v5 v6 : Value} (F : Fr h₀ L h m) (e1 : m x1 = some v1) (e2 : m x2 = some v2) (e3 : m x3 = some v3) (e4 : m x4 = some v4) (e5 : m x5 = some v5) (e6 : m x6 = some v6) :
    Fr h₀ L h (fun y => if y = x1 then some v1 else if y = x2 then some v2 else if y = x3 then some v3 else if y = x4 then some v4 else if y = x5 then some v5 else if y = x6 then some v6 else m y) := by
  have : (fun y => if y = x1 then some v1 else if y = x2 then some v2 else if y = x3 then some v3 else if y = x4 then some v4 else if y = x5 then some v5 else if y = x6 then some v6 else m y) = m := by
    funext y
    by_cases h1 : y = x1
    · subst h1; simp [*]
    by_cases h2 : y = x2
    · subst h2; simp [*]
    by_cases h3 : y = x3
    · subst h3; simp [*]
    by_cases h4 : y = x4
    · subst h4; simp [*]
    by_cases h5 : y = x5
    · subst h5; simp [*]
    by_cases h6 : y = x6
    · subst h6; simp [*]
    simp [*]
  rw [this]; exact F
theorem expose7 {h₀ h : Heap} {L : Addr} {m : Str → Option Value} {x1 x2 x3 x4 x5 x6 x7 : Str} {v1 v2 v3 v4 v5 v6 v7 : Value} (F : Fr h₀ L h m) (e1 : m x1 = some v1) (e2 : m x2 = some v2) (e3 : m x3 = some v3) (e4 : m x4 = some v4) (e5 : m x5 = some v5) (e6 : m x6 = some v6) (e7 : m x7 = some v7) :
    Fr h₀ L h (fun y => if y = x1 then some v1 else if y = x2 then some v2 else if y = x3 then some v3 else if y = x4 then some v4 else if y = x5 then some v5 else if y = x6 then some v6 else if y = x7 then some v7 else m y) := by
  have : (fun y => if y = x1 then some v1 else if y = x2 then some v2 else if y = x3 then some v3 else if y = x4 then some v4 else if y = x5 then some v5 else if y = x6 then some v6 else if y = x7 then some v7 else m y) = m := by
    funext y
    by_cases h1 : y = x1
    · subst h1; simp [*]
    by_cases h2 : y = x2
    · subst h2; simp [*]
    by_cases h3 : y = x3
    · subst h3; simp [*]
    by_cases h4 : y = x4
    · subst h4; simp [*]
    by_cases h5 : y = x5
    · subst h5; simp [*]
    by_cases h6 : y = x6
    · subst h6; simp [*]
    by_cases h7 : y = x7
    · subst h7; simp [*]
    simp [*]
  rw [this]; exact F
theorem While_T {prog : Program} {w : World} {A : Around} {E : Value → Shared → Prop} {Q : Flow → Shared → Prop} {s : Shared} {env : Env} {h₀ : Heap} {L : Addr} {test : PySem.Expr} {body : List Stmt} {pos : Pos} {m : Str → Option Value} {news : List (Addr × Obj)} (J : Nat → (Str → Option Value) → List (Addr × Obj) → Prop) {n₀ : Nat}
    (F : Fr h₀ L s.heap m) (N : News h₀ L s.heap news) (hJ : J n₀ m news)
    (turn : ∀ n m₁ news₁ h₁ tk₁ (T : Flow → Shared → Prop), (∀ n' h' tk' m' nx', n' < n → Fr h₀ L h' m' → News h₀ L h' nx' → J n' m' nx' → T .next { s with heap := h', toks := tk' }) → Fr h₀ L h₁ m₁ → News h₀ L h₁ news₁ → J n m₁ news₁ →
      wpAny (model prog w) A (isTrue test env (eval test env)) (fun b s₂ =>
        if b = true then wpAny (model prog w) A (execs body env) T E s₂ else Q .next s₂) E { s with heap := h₁, toks := tk₁ })
    (hE : PassesOwn (model prog w) A env E := by passes_own) :
    wpAny (model prog w) A (exec (.While test body [] pos) env) Q E s :=
  While_inv2 J F N hJ (fun n m₁ news₁ h₁ tk₁ F₁ N₁ J₁ => turn n m₁ news₁ h₁ tk₁ (WhileStep2 h₀ L s J Q n) (fun n' h' tk' m' nx' hn F' N' hJ' => ⟨h', tk', m', nx', n', rfl, F', N', hn, hJ'⟩) F₁ N₁ J₁) hE
theorem wstep {h₀ h' : Heap} {L : Addr} {s : Shared} {J : Nat → (Str → Option Value) → List (Addr × Obj) → Prop} {Q : Flow → Shared → Prop} {n tk : Nat} {m₂ : Str → Option Value} {news₂ : List (Addr × Obj)} (n' : Nat) (F : Fr h₀ L h' m₂) (N : News h₀ L h' news₂) (hJ : J n' m₂ news₂) (hn : n' < n) :
    WhileStep2 h₀ L s J Q n .next { s with heap := h', toks := tk } := ⟨h', tk, m₂, news₂, n', rfl, F, N, hn, hJ⟩
/-- hex digits, the greatest first; none for 0 -/
noncomputable def digs (n : Nat) : List Nat := if _h : n = 0 then [] else digs (n / 16) ++ [n % 16]
termination_by n
decreasing_by omega
theorem digs_zero : digs 0 = [] := by rw [digs]; simp
theorem digs_pos {n : Nat} (h : n ≠ 0) : digs n = digs (n / 16) ++ [n % 16] := by rw [digs]; simp [h]
theorem digs_len : ∀ {k n : Nat}, n < 16 ^ k → (digs n).length ≤ k
  | k, 0, _ => by rw [digs_zero]; simp
  | 0, n + 1, h => by simp at h
  | k + 1, n + 1, h => by
    rw [digs_pos (by omega), List.length_append]
    have := digs_len (k := k) (n := (n + 1) / 16) (by rw [Nat.pow_succ] at h; omega)
    simp; omega
/-- the word of Int2AP -/
def wordB (n : Nat) : Array UInt8 := ((digs n).map fun d => UInt8.ofNat (65 + d)).toArray
theorem wordB_step {n : Nat} (h : n ≠ 0) : wordB n = wordB (n / 16) ++ #[UInt8.ofNat (65 + n % 16)] := by
  unfold wordB; rw [digs_pos h]; simp
theorem wordB_size {k n : Nat} (h : n < 16 ^ k) : (wordB n).size ≤ k := by
  unfold wordB; simp; exact digs_len h
theorem ap_pick {k : Nat} (h : k < 16) : KBy.picked #[65, 66, 67, 68, 69, 70, 71, 72, 73, 74, 75, 76, 77, 78, 79, 80] (some (k : Int)) (some ((k : Int) + 1)) = #[UInt8.ofNat (65 + k)] := by
  rw [KBc.picked_eq]
  have : ∀ k : Fin 16, (List.take (Option.elim (some (((k : Nat) : Int) + 1)) (Array.size #[(65 : UInt8), 66, 67, 68, 69, 70, 71, 72, 73, 74, 75, 76, 77, 78, 79, 80]) (clipAt (Array.size #[(65 : UInt8), 66, 67, 68, 69, 70, 71, 72, 73, 74, 75, 76, 77, 78, 79, 80])) -
    Option.elim (some ((k : Nat) : Int)) 0 (clipAt (Array.size #[(65 : UInt8), 66, 67, 68, 69, 70, 71, 72, 73, 74, 75, 76, 77, 78, 79, 80]))) (List.drop (Option.elim (some ((k : Nat) : Int)) 0 (clipAt (Array.size #[(65 : UInt8), 66, 67, 68, 69, 70, 71, 72, 73, 74, 75, 76, 77, 78, 79, 80]))) (Array.toList #[(65 : UInt8), 66, 67, 68, 69, 70, 71, 72, 73, 74, 75, 76, 77, 78, 79, 80]))).toArray = #[UInt8.ofNat (65 + k)] := by decide +kernel
  exact this ⟨k, h⟩
section
variable {prog : Program} {w : World} {p : Program} {loose : List Str} {mean : ExcName → Option Value} {mg mb : Str → Option Value}
theorem int2ap_c {A : Around} {s : Shared} {n : Int} {ta : Tok} (hat : At w p loose mean mg mb A 1 s.heap) (h0 : 0 ≤ n) (h1 : n < 2 ^ 64) :
    Ctr prog w A s 111 [.int n ta] (BytesV (wordB n.toNat)) := by
  refine enter_pure (dk := 0) (binds := [(Str.ofString "num", .int n ta)]) hat (by k_is) (by k_is) (BindsTo.of_eq rfl) (locs rfl) rfl rfl rfl (by decide) ?_
  k_extra "MY enter"
  k_extra "MY steps"
  rename Fr _ _ _ _ => F1
  rename News _ _ _ _ => N1
  rw [show (if n < 0 then -n else n) = ((n.toNat : Nat) : Int) by rw [if_neg (by omega), Int.toNat_of_nonneg h0]] at F1
  refine While_T (fun i m nx => nx = [] ∧ ∃ (k : Nat) (v : Array UInt8) (t tv ta : Tok), i = k ∧ m (Str.ofString "num") = some (.int k t) ∧ m (Str.ofString "val") = some (.bytes v tv) ∧ m (Str.ofString "AP") = some (.bytes #[65, 66, 67, 68, 69, 70, 71, 72, 73, 74, 75, 76, 77, 78, 79, 80] ta) ∧ wordB k ++ v = wordB n.toNat) (n₀ := n.toNat) F1 N1 ?_ ?_ PassesOwn.never
  · exact ⟨rfl, n.toNat, #[], _, _, _, rfl, rfl, rfl, rfl, by simp⟩
  · clear F1 N1
    rintro k m₁ nx h₁ tk₁ TW hTW F₁ N₁ ⟨rfl, _, v, t, tv, ta, rfl, e1, e2, e3, e4⟩
    replace F₁ := expose3 F₁ e1 e2 e3
    k_extra "MY steps"
    · rename Fr _ _ _ _ => F2
      rename News _ _ _ _ => N2
      have hf : Int.fmod (k : Int) 16 = ((k % 16 : Nat) : Int) := by rw [Int.fmod_eq_emod_of_nonneg _ (by omega)]; omega
      have hd : Int.fdiv (k : Int) 16 = ((k / 16 : Nat) : Int) := by rw [Int.fdiv_eq_ediv_of_nonneg _ (by omega)]; omega
      refine KBc.slice_K (s := ⟨_, _, _, _, _⟩) F2 N2 rfl (by constructor) (by constructor) (by decide) ?_
      clear F2 N2
      intro h' t' k' F' N' _
      rw [hf, ap_pick (by omega)]
      rw [hd] at F'
      clear hf hd
      k_extra "MY steps"
      have hz : v.size ≤ 16 := by
        have := wordB_size (k := 16) (n := n.toNat) (by omega)
        rw [← e4, Array.size_append] at this; omega
      refine KBy.add_bytes (by simp; omega) ?_
      intro t9 k9
      k_extra "MY steps"
      rename Fr _ _ _ _ => F3
      have hk0 : k ≠ 0 := by rename ((k : Int) ≠ 0) => hq; omega
      refine hTW (k / 16) _ _ _ _ (by omega) F3 News.nil ⟨rfl, k / 16, _, _, _, _, rfl, rfl, rfl, rfl, ?_⟩
      rw [← Array.append_assoc, ← wordB_step hk0, e4]
    · have hk0 : k = 0 := by first | omega | (rename ¬ ((k : Int) ≠ 0) => hq; omega)
      subst hk0
      refine cend_bytes (by assumption) ?_
      rw [← e4]; simp [wordB, digs_zero]
end
end
/-! part WuComp -/
noncomputable section
section
variable {prog : Program} {w : World} {A : Around} {E : Value → Shared → Prop} {s : Shared} {h₀ : Heap} {L : Addr} {m : Str → Option Value} {env : Env}
theorem grown_refl {s : Shared} {h' : Heap} {tk' : Nat} (st : s.heap.StaysIn h') : Grown s { s with heap := h', toks := tk' } := ⟨h', tk', rfl, st⟩
/-- a comprehension whose element only makes the heap grow -/
theorem crest {elt : Expr} {x : Str} {scope : Scope} {cl : List (Str × Addr)} {s₂ : Shared} {S : List (Addr × Obj) → Prop} {P : Nat → Value → Prop} {Fin : List Value → List (Addr × Obj) → Prop} {n : Nat} {news : List (Addr × Obj)} (Rel : Nat → Value → Prop)
    (hS : S news)
    (turn : ∀ i v C m₂ h tk, i < n → P i v → h.Ns C m₂ → m₂ x = some v → Fr h₀ L h m → News h₀ L h news →
      wpAny (model prog w) A (eval elt (compEnvC scope cl C env)) (fun y s' => Grown { s₂ with heap := h, toks := tk } s' ∧ Rel i y) (fun _ _ => False) { s₂ with heap := h, toks := tk })
    (fin : ∀ ys : List Value, ys.length = n → (∀ i y, ys[i]? = some y → Rel i y) → Fin ys news) :
    LCg.CompRest prog w A h₀ L m env elt x scope cl s₂ S P Fin n 0 [] news := by
  suffices H : ∀ k i ys, i + k = n → ys.length = i → (∀ j y, ys[j]? = some y → Rel j y) → LCg.CompRest prog w A h₀ L m env elt x scope cl s₂ S P Fin k i ys news from
    H n 0 [] (by omega) rfl (fun j y hy => by simp at hy)
  intro k
  induction k with
  | zero => intro i ys hi hl hy; exact LCg.CompRest.zero (fin ys (by omega) hy)
  | succ k ih =>
    intro i ys hi hl hy
    refine LCg.CompRest.succ fun v I oI C oC D m₂ h tk E' hP hC hx F N off ne => ?_
    have N' : News h₀ L h news := fun p hp => N p (.tail _ (.tail _ (.tail _ hp)))
    refine wpAny_mono (turn i v C m₂ h tk (by omega) hP (hC.ns (N.get (.tail _ (.head _)))) hx F N') (fun y s' q => ?_) (fun _ _ q => q.elim)
    obtain ⟨⟨h', tk', rfl, st⟩, hr⟩ := q
    refine ⟨h', tk', news, rfl, F.keeps st, N.grown st, off, hS, ih (i + 1) _ (by omega) (by simp [hl]) ?_⟩
    intro j y' hj
    by_cases hji : j < ys.length
    · rw [List.getElem?_append_left hji] at hj; exact hy j y' hj
    · rw [List.getElem?_append_right (by omega)] at hj
      have h0 : j - ys.length = 0 := by
        rcases Nat.eq_zero_or_pos (j - ys.length) with q | q
        · exact q
        · rw [List.getElem?_eq_none (by simp; omega)] at hj; cases hj
      rw [h0] at hj
      cases hj
      have : j = i := by omega
      subst this; exact hr
theorem bytes_st {I : Addr} {b : Array UInt8} {t : Tok} : ∀ i (h h' : Heap) (o : Obj) (nw : List (Addr × Obj)), KBw.IsBytesIter h I b t i → h.get? I = some o → h'.get? I = some o → (∀ b o, h₀.get? b = some o → h'.get? b = some o) → News h₀ L h' nw → True → KBw.IsBytesIter h' I b t i :=
  fun i h h' o nw st e e' _ _ _ => by obtain ⟨o', q, r⟩ := st; rw [e] at q; cases q; exact ⟨o, e', r⟩
theorem listcomp_bytes {elt iter : Expr} {x : Str} {px : Pos} {scope : Scope} {cl : List (Str × Addr)} {pos : Pos} {Q : Value → Shared → Prop} (_F₀ : Fr h₀ L s.heap m)
    (hclos : closureFor scope env = pure cl) (hcell : ∀ y ∈ scope.names, y.2 ≠ .cell) (hkind : scope.kind = .function)
    (hnames : ∀ y ∈ scope.names, y.2 = .local → scope.names.lookup y.1 = some .local) (hx : scope.names.lookup x = some .local) (hh : A.handled = none)
    (h : wpAny (model prog w) A (eval iter env) (fun xv s₁ => ∃ b t news, xv = .bytes b t ∧ Fr h₀ L s₁.heap m ∧ News h₀ L s₁.heap news ∧ b.size ≤ sizeLine ∧
      ∀ g, LCg.CompRest prog w A h₀ L m env elt x scope cl { s₁ with heap := g } (fun _ => True) (fun i v => ∃ c u, b[i]? = some c ∧ v = .int (c.toNat : Int) u) (LCg.FinE h₀ L m { s₁ with heap := g } Q) b.size 0 [] news) E s)
    (hs : ∀ x, foldedSetIterable iter env x = pure x := by intro _; rfl) :
    wpAny (model prog w) A (eval (.ListComp elt [⟨.Name x px, iter, [], 0⟩] scope pos) env) Q E s := by
  rw [eval_ListComp]
  refine wpAny_comprehension_free (use := none) rfl hs hclos hkind hnames (wpAny_mono h (fun xv s₁ h₁ => ?_) fun _ _ e => e)
  obtain ⟨b, t, news, rfl, F, N, hsz, R⟩ := h₁
  refine KBw.pyIter_bytes ?_
  have up : ∀ a o, s₁.heap.get? a = some o → (s₁.heap.push { cls := .type "bytes_iterator", data := .fields #[.bytes b t, .int 0 0] }).get? a = some o := fun a o e => Heap.get?_push_of_some _ e
  refine LCg.block_U (KBw.walks hh s₁.heap.objs.size b t) hsz (fun i h st => by obtain ⟨o, e, _⟩ := st; exact ⟨o, e⟩) bytes_st hcell hkind hx ⟨_, Heap.get?_push_size _ rfl, rfl, rfl⟩ (fun a ha => ?_)
    (F.keeps up) (N.grown up) (Nat.ne_of_lt F.ns.lt) (next_is_new F) (fun p hp => Nat.ne_of_lt (Heap.lt_size (N p hp).1)) trivial (R _) ?_
  · rw [List.mem_singleton.mp ha]
    show s₁.heap.objs.size < (s₁.heap.push _).objs.size
    rw [Heap.size_push]; exact Nat.lt_succ_self _
  · intro D C h tk m' ys news' F' N' o1 hn hC₀ hD₀ hCL hDL hCD offC fin
    refine ⟨m', hn, fun h'' hs'' => fin D h'' tk (F'.change hs'' hCL hC₀) (fun p hp => ?_) o1⟩
    refine ⟨hs''.extBut _ _ ?_ (N' p hp).1, (N' p hp).2⟩
    rcases List.mem_cons.mp hp with rfl | hp
    · exact Ne.symm hCD
    · exact offC p hp
end
end
/-! part WuLoop -/
noncomputable section
section
variable {prog : Program} {w : World} {A : Around} {E : Value → Shared → Prop} {s : Shared} {env : Env} {h₀ : Heap} {x : Str} {body : List Stmt} {Q : Flow → Shared → Prop}
/-- how a turn of a loop ends: the iterator stands as it stood, J holds of what is next -/
def LTurn (h₀ : Heap) (L : Addr) (s : Shared) (I : Addr) (oI : Obj) (adr : List Addr) (J : (Str → Option Value) → List (Addr × Obj) → Prop) (Q : Flow → Shared → Prop) (f : Flow) (s₂ : Shared) : Prop :=
  match f with
  | .ret v => Q (.ret v) s₂
  | .brk => Q .next s₂
  | _ => ∃ h' tk' m' nx', s₂ = { s with heap := h', toks := tk' } ∧ Fr h₀ L h' m' ∧ News h₀ L h' ((I, oI) :: nx') ∧ nx'.map (·.1) = adr ∧ J m' nx'
theorem lturn {L : Addr} {I : Addr} {oI : Obj} {adr : List Addr} {J : (Str → Option Value) → List (Addr × Obj) → Prop} {h' : Heap} {tk' : Nat} {m' : Str → Option Value} {all : List (Addr × Obj)} (nx' : List (Addr × Obj)) (F : Fr h₀ L h' m') (N : News h₀ L h' all) (hs : ∀ p ∈ (I, oI) :: nx', p ∈ all) (ha : nx'.map (·.1) = adr) (hJ : J m' nx') :
    LTurn h₀ L s I oI adr J Q .next { s with heap := h', toks := tk' } := ⟨h', tk', m', nx', rfl, F, fun p hp => N p (hs p hp), ha, hJ⟩
/-- what the end of a turn must give, told of any predicate: so the walk bears a name alone -/
def TurnOk (h₀ : Heap) (L : Addr) (s : Shared) (I : Addr) (oI : Obj) (adr : List Addr) (J : (Str → Option Value) → List (Addr × Obj) → Prop) (T : Flow → Shared → Prop) : Prop :=
  ∀ h' tk' m' nx', Fr h₀ L h' m' → News h₀ L h' ((I, oI) :: nx') → nx'.map (·.1) = adr → J m' nx' → T .next { s with heap := h', toks := tk' }
theorem tturn {L : Addr} {I : Addr} {oI : Obj} {adr : List Addr} {J : (Str → Option Value) → List (Addr × Obj) → Prop} {T : Flow → Shared → Prop} {h' : Heap} {tk' : Nat} {m' : Str → Option Value} {all : List (Addr × Obj)} (hT : TurnOk h₀ L s I oI adr J T) (nx' : List (Addr × Obj)) (F : Fr h₀ L h' m') (N : News h₀ L h' all) (hs : ∀ p ∈ (I, oI) :: nx', p ∈ all) (ha : nx'.map (·.1) = adr) (hJ : J m' nx') :
    T .next { s with heap := h', toks := tk' } := hT h' tk' m' nx' F (fun p hp => N p (hs p hp)) ha hJ
theorem news_sub {L : Addr} {h : Heap} {all sub : List (Addr × Obj)} (N : News h₀ L h all) (hs : ∀ p ∈ sub, p ∈ all) : News h₀ L h sub := fun p hp => N p (hs p hp)
theorem wp_abs {prog : Program} {w : World} {A : Around} {E : Value → Shared → Prop} {s : Shared} {t : Sem Flow} {Q : Flow → Shared → Prop} (P : Flow → Shared → Prop) (h : ∀ T : Flow → Shared → Prop, (∀ f s', P f s' → T f s') → wpAny (model prog w) A t T E s) (k : ∀ f s', P f s' → Q f s') : wpAny (model prog w) A t Q E s := h Q k
theorem loop_list {l : Addr} {vs : List Value} {m₀ : Str → Option Value} {news : List (Addr × Obj)} (J : Nat → (Str → Option Value) → List (Addr × Obj) → Prop)
    (hh : A.handled = none) (hl : h₀.IsList l vs.toArray ∨ ∃ k, (l, PySem.W.listOf vs.toArray k) ∈ news ∧ ∀ i m nx, J i m nx → (l, PySem.W.listOf vs.toArray k) ∈ nx)
    (F : Fr h₀ env.locals s.heap m₀) (N : News h₀ env.locals s.heap news) (hj : J 0 m₀ news)
    (turn : ∀ i v m₁ nx h tk I oI (T : Flow → Shared → Prop), TurnOk h₀ env.locals s I oI (news.map (·.1)) (J (i + 1)) T → vs[i]? = some v → nx.map (·.1) = news.map (·.1) → (∀ p ∈ nx, p.1 ≠ I) → J i m₁ nx → Fr h₀ env.locals h (fun y => if y = x then some v else m₁ y) → News h₀ env.locals h ((I, oI) :: nx) →
      wpAny (model prog w) A (execs body env) T E { s with heap := h, toks := tk })
    (done : ∀ m₁ nx h tk, nx.map (·.1) = news.map (·.1) → J vs.length m₁ nx → Fr h₀ env.locals h m₁ → News h₀ env.locals h nx → Q .next { s with heap := h, toks := tk }) :
    wpAny (model prog w) A (pyIter (.ref l)) (fun it s₂ => LoopAtV prog w A h₀ env x body Q E it s₂) E s := by
  have hls : s.heap.IsList l vs.toArray := by
    rcases hl with hl | ⟨k, hm, _⟩
    · exact hl.at fun o e => F.keep l o e
    · exact ⟨_, (N _ hm).1, rfl, k, rfl⟩
  have hll : l < s.heap.objs.size := by obtain ⟨o, e, _⟩ := hls; exact Heap.lt_size e
  have hne : l ≠ s.heap.objs.size := Nat.ne_of_lt hll
  have hlL : env.locals ≠ l := by
    rcases hl with hl | ⟨k, hm, _⟩
    · obtain ⟨o, e, _⟩ := hl
      exact fun q => absurd (Nat.lt_of_lt_of_le (Heap.lt_size e) F.above) (q ▸ Nat.lt_irrefl _)
    · exact fun q => (N _ hm).2.1 q.symm
  refine wpAny_pyIter_list hls ?_
  have W := Walks.list (prog := prog) (w := w) hh s.heap.objs.size l hne vs.toArray
  rw [List.size_toArray] at W
  refine ⟨_, _, _, vs.length, _, _, m₀, news, (fun i m nx => nx.map (·.1) = news.map (·.1) ∧ J i m nx), rfl, W, ?_, ?_, ?_, ⟨⟨_, Heap.get?_push_size _ rfl, rfl, rfl⟩, hls.at fun o e => Heap.get?_push_of_some _ e⟩, F.push _, (fun p hp => ⟨Heap.get?_push_of_some _ (N p hp).1, (N p hp).2⟩), ⟨rfl, hj⟩, ?_, ?_⟩
  · intro hm
    rcases List.mem_cons.mp hm with e | hm
    · exact absurd F.ns.lt (e ▸ Nat.lt_irrefl _)
    · exact hlL (List.mem_singleton.mp hm)
  · intro b hb
    rw [List.mem_singleton.mp hb]
    exact next_is_new F
  · intro p hp hI
    exact absurd (Heap.lt_size (N p hp).1) ((List.mem_singleton.mp hI) ▸ Nat.lt_irrefl _)
  · rintro i v m₁ nx s₁ own ⟨hh', tk', rfl⟩ hin hP ⟨hadr, hJ⟩ hoff hown hget hfp hst F₁ N₁
    obtain ⟨⟨oI, hoI, _⟩, _⟩ := hst
    have hI₀ : h₀.get? s.heap.objs.size = none := next_is_new F
    have hIo : (s.heap.objs.size, oI) ∈ own := hfp _ (.head _) hI₀ _ hoI
    have hv : vs[i]? = some v := by simpa using hP
    refine wpAny_mono (turn i v m₁ nx hh' tk' s.heap.objs.size oI (LTurn h₀ env.locals s s.heap.objs.size oI (news.map (·.1)) (J (i + 1)) Q) (fun h' tk' m' nx' F N ha hJ => ⟨h', tk', m', nx', rfl, F, N, ha, hJ⟩) hv hadr (fun p hp q => hoff p hp (List.mem_singleton.mpr q)) hJ F₁ (fun p hp => ?_)) (fun f s₂ p => ?_) fun _ _ e => e
    · rcases List.mem_cons.mp hp with rfl | hp
      · exact N₁ _ (List.mem_append.mpr (.inl hIo))
      · exact N₁ _ (List.mem_append.mpr (.inr hp))
    · have fin : (∃ h' tk' m' nx', s₂ = { s with heap := h', toks := tk' } ∧ Fr h₀ env.locals h' m' ∧ News h₀ env.locals h' ((s.heap.objs.size, oI) :: nx') ∧ nx'.map (·.1) = news.map (·.1) ∧ J (i + 1) m' nx') →
          LoopStepU h₀ env.locals [s.heap.objs.size] own (fun m nx => nx.map (·.1) = news.map (·.1) ∧ J (i + 1) m nx) { s with heap := hh', toks := tk' } .next s₂ := by
        rintro ⟨h', tk₂, m', nx', rfl, F', N', ha, hJ'⟩
        refine ⟨rfl, h', tk₂, m', nx', rfl, F', fun p hp => ?_, fun p hp hI => ?_, ha, hJ'⟩
        · rcases List.mem_append.mp hp with hp | hp
          · have e1 := hget p hp
            rcases List.mem_cons.mp (hown p hp) with q | q
            · have : p = (s.heap.objs.size, oI) := by
                obtain ⟨a, o⟩ := p
                simp only at q e1
                subst q
                rw [hoI] at e1; cases e1; rfl
              rw [this]; exact N' _ (.head _)
            · have q' : p.1 = l := List.mem_singleton.mp q
              rcases hl with hl | ⟨k, hm, hk⟩
              · obtain ⟨o, e, _⟩ := hl
                have := (N₁ p (List.mem_append.mpr (.inl hp))).2.2
                rw [q', e] at this; cases this
              · have z1 := (N₁ _ (List.mem_append.mpr (.inr (hk _ _ _ hJ)))).1
                have : p = (l, PySem.W.listOf vs.toArray k) := by
                  obtain ⟨a, o⟩ := p
                  simp only at q' e1
                  subst q'
                  rw [z1] at e1; cases e1; rfl
                rw [this]; exact N' _ (.tail _ (hk _ _ _ hJ'))
          · exact N' p (.tail _ hp)
        · have h1 : p.1 ∈ nx'.map (·.1) := List.mem_map.mpr ⟨p, hp, rfl⟩
          rw [ha, ← hadr] at h1
          obtain ⟨q, hq1, hq2⟩ := List.mem_map.mp h1
          exact hoff q hq1 (by rw [hq2]; exact hI)
      cases f with
      | ret v => exact .ret p
      | brk => exact .brk p
      | next => exact .next (fin p)
      | cont => exact .cont (fin p)
  · rintro h' tk m' news' F' N' _ ⟨ha, hJ⟩
    exact done m' news' h' tk ha hJ F' N'
end
end
/-! part WuOdd -/
local macro_rules | `(tactic| k_ne) => `(tactic| (refine neN ?_; (try dsimp only); first | with_reducible assumption | with_reducible exact Ne.symm (by assumption) | with_reducible exact Nat.ne_of_lt (by assumption) | with_reducible exact Nat.ne_of_gt (by assumption) | omega))
local macro_rules | `(tactic| walk_at "MY cells") => `(tactic| (
  intro g L' h₁ tk cells env outer base dp un gd st F N Y B X T hd hu
  (have hY := CellsAre.one Y; obtain ⟨o', hE', d1'⟩ := hY; subst hE'; clear Y)
  (try dsimp only)
  (try k_unmd)
  k_fold
  (try k_extra "MY abs")))
local macro_rules | `(tactic| walk_at "MY bl") => `(tactic| (
  k_extra "MY enter";
  (rename Heap.StaysIn _ _ => st9);
  (rename Heap.IsList _ _ _ => hl9);
  (have hlg := stays_list st9 hl9);
  k_extra "MY steps"))
noncomputable section
theorem reset_WuOdd : True := by
  w_top off
  k_with_none
  (k_with "MY got" => (intro _ _ _ _ _ _; (try dsimp only); (try k_sweep)))
  (k_with "MY gotb" => (intro _ _ _ _ _; (try dsimp only); (try k_sweep)))
  (k_with "MY abs" => (refine abs_post ?_; intro _ _))
  (k_with "MY end" => ((fail_if_success (with_reducible show wpAny _ _ _ _ _ _)); (first | with_reducible refine TSeq.next (by assumption) _ ?_ | with_reducible refine TSeq.ret (by assumption) _ _ ?_ | with_reducible refine AbsQ.of (by assumption) _ _ ?_); (try dsimp only)))
  (k_with "execs cons" => (k_here; (try k_gentoks); (try k_made); (with_reducible refine seq_abs ?_); intro _ _; (try dsimp only)))
  (k_with "MY enter" => (
  intro _ _ _ _ _ _ _ _ _ _ _ _ _ _ _ _ _
  (try dsimp only)
  k_fold
  (try k_extra "MY abs")))
  (k_with "MY stop" => (
  (fail_if_success (with_reducible show Exists _));
  (fail_if_success (with_reducible show LCt.CompSrcT _ _ _ _ _ _ _ _ _ _ _ _ _ _ _));
  (fail_if_success (with_reducible show LCg.CompSrc _ _ _ _ _ _ _ _ _ _ _ _ _ _));
  (first | (with_reducible show Frag.In _ _ ∧ _) | (with_reducible show FnAt _ _ ∧ _) | (fail_if_success (with_reducible show And _ _)));
  (fail_if_success (with_reducible show wpAny _ _ (eval (Expr.ListComp _ _ _ _) _) _ _ _));
  (fail_if_success (with_reducible show wpAny _ _ (pyIter _) _ _ _));
  (fail_if_success (with_reducible show wpAny _ _ (exec (Stmt.Assign _ (Expr.ListComp _ _ _ _) _) _) _ _ _));
  (fail_if_success (with_reducible show wpAny _ _ (exec (Stmt.While _ _ _ _) _) _ _ _));
  (fail_if_success (with_reducible show wpAny _ _ (exec (Stmt.For _ _ _ _ _) _) _ _ _))))
  (k_with "MY one" => first
  | k_extra "MY end"
  | (k_unfold; (try dsimp only))
  | walk1
  | (dsimp only; walk1)
  | (dsimp only; k_unfold; (try dsimp only))
  | (leave1; walk_say "STEP leave1"; try dsimp only)
  | fail "no step")
  (k_with "MY steps" => w_strict (repeat' (k_extra "MY stop"; k_extra "MY one")))
  (k_with "MY at" => (exact At.of (by k_asm) (by k_asm) (by k_asm) (by k_asm) (by exact rfl) (by exact rfl) (by exact rfl) (by exact rfl) (by k_extra "MY room") (by k_extra "MY room")))
  (k_with "MY room" => first | decide | ((try dsimp only [Around.deeper]); first | with_reducible exact roomD (by assumption) (by decide) | with_reducible exact roomD2 (by assumption) (by decide) | with_reducible exact roomU (by assumption) (by decide) | with_reducible exact roomU2 (by assumption) (by decide) | omega))
  (k_with "MY stage" => (
  refine ⟨_, _, _, _, _, _, _, _, _, _, _, _, _, _, _, by k_is, ?_⟩))
  (k_with "MY steps2" => w_strict (repeat' (k_extra "MY stop"; (fail_if_success (with_reducible show wpAny _ _ (execs (Stmt.For _ _ _ _ _ :: _) _) _ _ _)); k_extra "MY one")))
  (k_with "MY sub" => first | exact sub_nil | exact sub_cons (by k_mem) (by k_extra "MY sub"))
  (k_with "MY off" => first | exact trivial | exact And.intro (by k_ne) (by k_extra "MY off"))
  trivial
theorem lay_odd_1 : True := by
  (k_with "call ref" => (k_here; (with_reducible show wpAny _ _ (call (Value.ref 56) _) _ _ _); (refine' use_bool (contains_c (by k_extra "MY at") (by omega) (by omega)) (by k_asm) (by k_asm) ?_); k_extra "MY gotb"))
  trivial
section
variable {prog : Program} {w : World} {p : Program} {loose : List Str} {mean : ExcName → Option Value} {mg mb : Str → Option Value}
theorem countOf_c {A : Around} {s : Shared} {l : Addr} {bs : List Bool} (hat : At w p loose mean mg mb A 1 s.heap) (hl : s.heap.IsList l (bs.map Value.bool).toArray) :
    Ctr prog w A s 63 [.ref l, .bool true] (IntV ((bs.count true : Nat) : Int)) := by
  refine enter_pure (dk := 0) (binds := [(Str.ofString "a", .ref l), (Str.ofString "b", .bool true)]) hat (by k_is) (by k_is) (BindsTo.of_eq rfl) (locs rfl) rfl rfl rfl (by decide) ?_
  k_extra "MY enter"
  k_extra "MY steps"
  rename Fr _ _ _ _ => F1
  rename News _ _ _ _ => N1
  rename Heap.StaysIn _ _ => st
  refine For_invVF F1 rfl rfl ?_ (by intro _; rfl) PassesOwn.never
  k_extra "MY steps"
  refine loop_list (vs := bs.map Value.bool) (fun i m nx => nx = [] ∧ (∃ t, m (Str.ofString "count") = some (.int (((bs.take i).count true : Nat) : Int) t)) ∧ m (Str.ofString "b") = some (.bool true)) rfl (.inl (stays_list st hl)) F1 N1 ⟨rfl, ⟨_, rfl⟩, rfl⟩ ?_ ?_
  · clear F1 N1
    rintro i v m₁ nx h tk I oI TT hTT hv _ _ ⟨rfl, ⟨t, e1⟩, e2⟩ F₁ N₁
    obtain ⟨c, hc, rfl⟩ : ∃ c, bs[i]? = some c ∧ v = .bool c := by
      rw [List.getElem?_map] at hv
      cases q : bs[i]? with
      | none => rw [q] at hv; cases hv
      | some c => rw [q] at hv; cases hv; exact ⟨c, rfl, rfl⟩
    replace F₁ := expose3 F₁ (x1 := Str.ofString "i") rfl (x2 := Str.ofString "count") e1 (x3 := Str.ofString "b") e2
    have hcount : (((bs.take (i + 1)).count true : Nat) : Int) = (((bs.take i).count true : Nat) : Int) + (if c then 1 else 0) := by
      rw [List.take_add_one, hc]; cases c <;> simp
    cases c
    all_goals k_extra "MY steps"
    · refine tturn hTT [] (by assumption) (by assumption) (fun p hp => hp) rfl ⟨rfl, ?_, rfl⟩
      rw [hcount]
      simp only [Bool.false_eq_true, if_false, Int.add_zero]
      exact ⟨t, rfl⟩
    · refine tturn hTT [] (by assumption) (by assumption) (fun p hp => hp) rfl ⟨rfl, ?_, rfl⟩
      rw [hcount]
      exact ⟨_, rfl⟩
  · clear F1 N1
    rintro m₁ nx h tk _ ⟨rfl, ⟨t, e1⟩, e2⟩ F₁ N₁
    replace F₁ := expose2 F₁ e1 e2
    k_extra "MY steps"
    refine cend_int (by assumption) ?_
    rw [List.take_of_length_le (by simp)]
theorem isl_head {h₀ h : Heap} {L l : Addr} {vs : List Value} {k : Nat} {r : List (Addr × Obj)} (N : News h₀ L h ((l, PySem.W.listOf vs.toArray k) :: r)) : h.IsList l vs.toArray := ⟨_, (N _ (.head _)).1, rfl, _, rfl⟩
theorem lay_odd_2 : True := by
  (k_with "call ref" => (k_here; (with_reducible show wpAny _ _ (call (Value.ref 63) _) _ _ _); (refine' use_int (countOf_c (by k_extra "MY at") (by rename News _ _ _ _ => N9; exact isl_head N9)) (by k_asm) (by k_asm) ?_); k_extra "MY got"))
  trivial
/-- the letters that stand for an odd number of binary ones -/
def oddLetter (c : UInt8) : Bool := Array.contains #[66, 67, 69, 72, 73, 76, 78, 79] c
theorem odd_c {A : Around} {s : Shared} {b : Array UInt8} {ta : Tok} (hat : At w p loose mean mg mb A 2 s.heap) (hz : b.size ≤ 1000) :
    Ctr prog w A s 116 [.bytes b ta] (IntV ((b.toList.countP oddLetter % 2 : Nat) : Int)) := by
  refine enter_pure (dk := 1) (binds := [(Str.ofString "word", .bytes b ta)]) hat (by k_is) (by k_is) (BindsTo.of_eq rfl) (locs rfl) rfl rfl rfl (by decide) ?_
  k_extra "MY enter"
  k_extra "MY steps"
  rename Fr _ _ _ _ => F1
  rename News _ _ _ _ => N1
  rename Heap.StaysIn _ _ => st
  refine listcomp_bytes (cl := []) F1 rfl (by decide) rfl (by decide) rfl rfl ?_ (by intro _; rfl)
  k_extra "MY steps"
  refine ⟨b, _, [], rfl, F1, News.nil, by rw [sizeLine_eq]; omega, fun g => ?_⟩
  refine crest (fun i y => ∃ c, b[i]? = some c ∧ y = .bool (oddLetter c)) trivial ?_ ?_
  · clear F1 N1
    rintro i v C m₂ h tk hi ⟨c, u, hc, rfl⟩ hC hx F N
    have hcb : c.toNat < 256 := c.toNat_lt
    k_extra "MY steps"
    exact ⟨grown_refl (by assumption), c, hc, by simp [oddLetter]⟩
  · clear F1 N1
    intro ys hlen hrel D h tk F N _
    have hys : ys = (b.toList.map oddLetter).map Value.bool := by
      refine List.ext_getElem? fun i => ?_
      cases q : ys[i]? with
      | none =>
        have : ys.length ≤ i := List.getElem?_eq_none_iff.mp q
        rw [List.getElem?_eq_none]; simp; omega
      | some y =>
        obtain ⟨c, hc, rfl⟩ := hrel i y q
        simp [hc]
    subst hys
    k_extra "MY steps"
    refine cend_int (by assumption) ?_
    rw [Int.fmod_eq_emod_of_nonneg _ (by omega)]
    have : List.count true (List.map oddLetter b.toList) = List.countP oddLetter b.toList := by
      rw [List.count, List.countP_map]
      congr 1
      funext c
      cases h : oddLetter c <;> simp [h]
    rw [this]; rfl
end
end
/-! part WuWorth -/
noncomputable section
theorem reset_WuWorth : True := by
  w_top off
  k_with_none
  (k_with "MY got" => (intro _ _ _ _ _ _; (try dsimp only); (try k_sweep)))
  (k_with "MY gotb" => (intro _ _ _ _ _; (try dsimp only); (try k_sweep)))
  (k_with "MY abs" => (refine abs_post ?_; intro _ _))
  (k_with "MY end" => ((fail_if_success (with_reducible show wpAny _ _ _ _ _ _)); (first | with_reducible refine TSeq.next (by assumption) _ ?_ | with_reducible refine TSeq.ret (by assumption) _ _ ?_ | with_reducible refine AbsQ.of (by assumption) _ _ ?_); (try dsimp only)))
  (k_with "execs cons" => (k_here; (try k_gentoks); (try k_made); (with_reducible refine seq_abs ?_); intro _ _; (try dsimp only)))
  (k_with "MY enter" => (
  intro _ _ _ _ _ _ _ _ _ _ _ _ _ _ _ _ _
  (try dsimp only)
  k_fold
  (try k_extra "MY abs")))
  (k_with "MY stop" => (
  (fail_if_success (with_reducible show Exists _));
  (fail_if_success (with_reducible show LCt.CompSrcT _ _ _ _ _ _ _ _ _ _ _ _ _ _ _));
  (fail_if_success (with_reducible show LCg.CompSrc _ _ _ _ _ _ _ _ _ _ _ _ _ _));
  (first | (with_reducible show Frag.In _ _ ∧ _) | (with_reducible show FnAt _ _ ∧ _) | (fail_if_success (with_reducible show And _ _)));
  (fail_if_success (with_reducible show wpAny _ _ (eval (Expr.ListComp _ _ _ _) _) _ _ _));
  (fail_if_success (with_reducible show wpAny _ _ (pyIter _) _ _ _));
  (fail_if_success (with_reducible show wpAny _ _ (exec (Stmt.Assign _ (Expr.ListComp _ _ _ _) _) _) _ _ _));
  (fail_if_success (with_reducible show wpAny _ _ (exec (Stmt.While _ _ _ _) _) _ _ _));
  (fail_if_success (with_reducible show wpAny _ _ (exec (Stmt.For _ _ _ _ _) _) _ _ _))))
  (k_with "MY one" => first
  | k_extra "MY end"
  | (k_unfold; (try dsimp only))
  | walk1
  | (dsimp only; walk1)
  | (dsimp only; k_unfold; (try dsimp only))
  | (leave1; walk_say "STEP leave1"; try dsimp only)
  | fail "no step")
  (k_with "MY steps" => w_strict (repeat' (k_extra "MY stop"; k_extra "MY one")))
  (k_with "MY at" => (exact At.of (by k_asm) (by k_asm) (by k_asm) (by k_asm) (by exact rfl) (by exact rfl) (by exact rfl) (by exact rfl) (by k_extra "MY room") (by k_extra "MY room")))
  (k_with "MY room" => first | decide | ((try dsimp only [Around.deeper]); first | with_reducible exact roomD (by assumption) (by decide) | with_reducible exact roomD2 (by assumption) (by decide) | with_reducible exact roomU (by assumption) (by decide) | with_reducible exact roomU2 (by assumption) (by decide) | omega))
  (k_with "MY stage" => (
  refine ⟨_, _, _, _, _, _, _, _, _, _, _, _, _, _, _, by k_is, ?_⟩))
  (k_with "MY steps2" => w_strict (repeat' (k_extra "MY stop"; (fail_if_success (with_reducible show wpAny _ _ (execs (Stmt.For _ _ _ _ _ :: _) _) _ _ _)); k_extra "MY one")))
  (k_with "MY sub" => first | exact sub_nil | exact sub_cons (by k_mem) (by k_extra "MY sub"))
  (k_with "MY off" => first | exact trivial | exact And.intro (by k_ne) (by k_extra "MY off"))
  trivial
theorem lay_worth_1 : True := by
  (k_with "call ref" => (k_here; (with_reducible show wpAny _ _ (call (Value.ref 111) _) _ _ _); (refine' use_bytes (int2ap_c (by k_extra "MY at") (by omega) (by omega)) (by k_asm) (by k_asm) ?_); k_extra "MY got"))
  (k_with "call ref" => (k_here; (with_reducible show wpAny _ _ (call (Value.ref 116) _) _ _ _); (refine' use_int (odd_c (by k_extra "MY at") (by exact Nat.le_trans (wordB_size (k := 16) (by omega)) (by decide))) (by k_asm) (by k_asm) ?_); k_extra "MY got"))
  (k_with "call ref" => (k_here; (with_reducible show wpAny _ _ (call (Value.ref 21) _) _ _ _); (refine' use_bool (not_c (by k_extra "MY at")) (by k_asm) (by k_asm) ?_); k_extra "MY gotb"))
  (k_with "call ref" => (k_here; (with_reducible show wpAny _ _ (call (Value.ref 42) _) _ _ _); (refine' use_int (lshift_c (by k_extra "MY at") (by omega) (by omega) (by omega) (by omega)) (by k_asm) (by k_asm) ?_); k_extra "MY got"))
  trivial
/-- an odd number of odd letters -/
def oddB (n : Nat) : Nat := List.countP oddLetter (wordB n).toList % 2
/-- the worth of a place -/
def worth (n : Nat) : Nat := 2 * n + if oddB n = 0 then 1 else 0
section
variable {prog : Program} {w : World} {p : Program} {loose : List Str} {mean : ExcName → Option Value} {mg mb : Str → Option Value}
theorem worth_c {A : Around} {s : Shared} {n : Int} {ta : Tok} (hat : At w p loose mean mg mb A 3 s.heap) (h0 : 0 ≤ n) (h1 : n < 2 ^ 40) :
    Ctr prog w A s 123 [.int n ta] (IntV ((worth n.toNat : Nat) : Int)) := by
  refine enter_pure (dk := 2) (binds := [(Str.ofString "place", .int n ta)]) hat (by k_is) (by k_is) (BindsTo.of_eq rfl) (locs rfl) rfl rfl rfl (by decide) ?_
  k_extra "MY enter"
  k_extra "MY steps"
  · rename ((List.countP oddLetter (wordB n.toNat).toList % 2 : Nat) : Int) = 0 => hq
    refine cend_int (by assumption) ?_
    have : oddB n.toNat = 0 := by unfold oddB; omega
    rw [worth, if_pos this, show (2 : Int) ^ Int.toNat 1 = 2 from rfl]; omega
  · rename ((List.countP oddLetter (wordB n.toNat).toList % 2 : Nat) : Int) ≠ 0 => hq
    refine cend_int (by assumption) ?_
    have : ¬ oddB n.toNat = 0 := by unfold oddB; omega
    rw [worth, if_neg this, show (2 : Int) ^ Int.toNat 1 = 2 from rfl]; omega
end
end
/-! part WuSum -/
noncomputable section
theorem reset_WuSum : True := by
  w_top off
  k_with_none
  (k_with "MY got" => (intro _ _ _ _ _ _; (try dsimp only); (try k_sweep)))
  (k_with "MY gotb" => (intro _ _ _ _ _; (try dsimp only); (try k_sweep)))
  (k_with "MY abs" => (refine abs_post ?_; intro _ _))
  (k_with "MY end" => ((fail_if_success (with_reducible show wpAny _ _ _ _ _ _)); (first | with_reducible refine TSeq.next (by assumption) _ ?_ | with_reducible refine TSeq.ret (by assumption) _ _ ?_ | with_reducible refine AbsQ.of (by assumption) _ _ ?_); (try dsimp only)))
  (k_with "execs cons" => (k_here; (try k_gentoks); (try k_made); (with_reducible refine seq_abs ?_); intro _ _; (try dsimp only)))
  (k_with "MY enter" => (
  intro _ _ _ _ _ _ _ _ _ _ _ _ _ _ _ _ _
  (try dsimp only)
  k_fold
  (try k_extra "MY abs")))
  (k_with "MY stop" => (
  (fail_if_success (with_reducible show Exists _));
  (fail_if_success (with_reducible show LCt.CompSrcT _ _ _ _ _ _ _ _ _ _ _ _ _ _ _));
  (fail_if_success (with_reducible show LCg.CompSrc _ _ _ _ _ _ _ _ _ _ _ _ _ _));
  (first | (with_reducible show Frag.In _ _ ∧ _) | (with_reducible show FnAt _ _ ∧ _) | (fail_if_success (with_reducible show And _ _)));
  (fail_if_success (with_reducible show wpAny _ _ (eval (Expr.ListComp _ _ _ _) _) _ _ _));
  (fail_if_success (with_reducible show wpAny _ _ (pyIter _) _ _ _));
  (fail_if_success (with_reducible show wpAny _ _ (exec (Stmt.Assign _ (Expr.ListComp _ _ _ _) _) _) _ _ _));
  (fail_if_success (with_reducible show wpAny _ _ (exec (Stmt.While _ _ _ _) _) _ _ _));
  (fail_if_success (with_reducible show wpAny _ _ (exec (Stmt.For _ _ _ _ _) _) _ _ _))))
  (k_with "MY one" => first
  | k_extra "MY end"
  | (k_unfold; (try dsimp only))
  | walk1
  | (dsimp only; walk1)
  | (dsimp only; k_unfold; (try dsimp only))
  | (leave1; walk_say "STEP leave1"; try dsimp only)
  | fail "no step")
  (k_with "MY steps" => w_strict (repeat' (k_extra "MY stop"; k_extra "MY one")))
  (k_with "MY at" => (exact At.of (by k_asm) (by k_asm) (by k_asm) (by k_asm) (by exact rfl) (by exact rfl) (by exact rfl) (by exact rfl) (by k_extra "MY room") (by k_extra "MY room")))
  (k_with "MY room" => first | decide | ((try dsimp only [Around.deeper]); first | with_reducible exact roomD (by assumption) (by decide) | with_reducible exact roomD2 (by assumption) (by decide) | with_reducible exact roomU (by assumption) (by decide) | with_reducible exact roomU2 (by assumption) (by decide) | omega))
  (k_with "MY stage" => (
  refine ⟨_, _, _, _, _, _, _, _, _, _, _, _, _, _, _, by k_is, ?_⟩))
  (k_with "MY steps2" => w_strict (repeat' (k_extra "MY stop"; (fail_if_success (with_reducible show wpAny _ _ (execs (Stmt.For _ _ _ _ _ :: _) _) _ _ _)); k_extra "MY one")))
  (k_with "MY sub" => first | exact sub_nil | exact sub_cons (by k_mem) (by k_extra "MY sub"))
  (k_with "MY off" => first | exact trivial | exact And.intro (by k_ne) (by k_extra "MY off"))
  trivial
theorem lay_sum_1 : True := by
  (k_with "call ref" => (k_here; (with_reducible show wpAny _ _ (call (Value.ref 123) _) _ _ _); (refine' use_int (worth_c (by k_extra "MY at") (by omega) (by omega)) (by k_asm) (by k_asm) ?_); k_extra "MY got"))
  (k_with "call ref" => (k_here; (with_reducible show wpAny _ _ (call (Value.ref 49) _) _ _ _); (refine' use_int (xor_c (by k_extra "MY at")) (by k_asm) (by k_asm) ?_); k_extra "MY got"))
  trivial
/-- naturals as zs -/
abbrev zs (l : List Nat) : List Int := List.map (fun n : Nat => (n : Int)) l
theorem xor_add : ∀ (a b : Nat), (a ^^^ b) + 2 * (a &&& b) = a + b := by
  intro a
  induction a using Nat.strongRecOn with
  | ind a ih =>
    intro b
    by_cases h : a = 0
    · subst h; simp
    · have h1 := ih (a / 2) (by omega) (b / 2)
      have e1 : (a ^^^ b) / 2 = (a / 2) ^^^ (b / 2) := Nat.xor_div_two
      have e2 : (a &&& b) / 2 = (a / 2) &&& (b / 2) := Nat.and_div_two
      have m1 : (a ^^^ b) % 2 = (a % 2) ^^^ (b % 2) := Nat.xor_mod_two_pow (n := 1)
      have m2 : (a &&& b) % 2 = (a % 2) &&& (b % 2) := Nat.and_mod_two_pow (n := 1)
      rw [← e1, ← e2] at h1
      have ha : a % 2 = 0 ∨ a % 2 = 1 := by omega
      have hb : b % 2 = 0 ∨ b % 2 = 1 := by omega
      rcases ha with ha | ha <;> rcases hb with hb | hb <;> rw [ha, hb] at m1 m2 <;> simp only [Nat.reduceXor, Nat.reduceAnd] at m1 m2 <;> omega
theorem bitAnd_nat (a b : Nat) : Builtin.bitAnd (a : Int) (b : Int) = ((a &&& b : Nat) : Int) := by
  unfold Builtin.bitAnd
  rw [decide_eq_true (by omega), decide_eq_true (by omega)]
  simp
theorem bitXor_nat (a b : Nat) : Builtin.bitXor (a : Int) (b : Int) = ((a ^^^ b : Nat) : Int) := by
  rw [bitXor_and, bitAnd_nat]
  have := xor_add a b
  omega
/-- the exclusive or of the worths -/
def nsum (l : List Nat) : Nat := l.foldl (fun v n => v ^^^ worth n) 0
section
variable {prog : Program} {w : World} {p : Program} {loose : List Str} {mean : ExcName → Option Value} {mg mb : Str → Option Value}
theorem zs_get {vs : List Value} {l : List Nat} (hi : IntsAre vs (zs l)) {i : Nat} {v : Value} (hv : vs[i]? = some v) : ∃ n t, l[i]? = some n ∧ v = .int (n : Int) t := by
  have hl := hi.length
  have hlt : i < vs.length := by
    rcases Nat.lt_or_ge i vs.length with h | h
    · exact h
    · rw [List.getElem?_eq_none h] at hv; cases hv
  have hlt2 : i < l.length := by rw [hl] at hlt; simpa using hlt
  obtain ⟨t, hx⟩ := hi.get i (l[i] : Int) (by simp [hlt2])
  rw [hx] at hv; cases hv
  exact ⟨l[i], t, by simp [hlt2], rfl⟩
theorem sum_c {A : Around} {s : Shared} {l : Addr} {vs : List Value} {row : List Nat} (hat : At w p loose mean mg mb A 4 s.heap) (hl : s.heap.IsList l vs.toArray) (hi : IntsAre vs (zs row)) (hb : ∀ n ∈ row, n < 2 ^ 30) :
    Ctr prog w A s 142 [.ref l] (IntV ((nsum row : Nat) : Int)) := by
  refine enter_pure (dk := 3) (binds := [(Str.ofString "row", .ref l)]) hat (by k_is) (by k_is) (BindsTo.of_eq rfl) (locs rfl) rfl rfl rfl (by decide) ?_
  k_extra "MY enter"
  k_extra "MY steps"
  rename Fr _ _ _ _ => F1
  rename News _ _ _ _ => N1
  rename Heap.StaysIn _ _ => st
  refine For_invVF F1 rfl rfl ?_ (by intro _; rfl) PassesOwn.never
  k_extra "MY steps"
  refine loop_list (vs := vs) (fun i m nx => nx = [] ∧ (∃ t, m (Str.ofString "value") = some (.int ((nsum (row.take i) : Nat) : Int) t))) rfl (.inl (stays_list st hl)) F1 N1 ⟨rfl, ⟨_, rfl⟩⟩ ?_ ?_
  · clear F1 N1
    rintro i v m₁ nx h tk I oI TT hTT hv _ _ ⟨rfl, ⟨t, e1⟩⟩ F₁ N₁
    obtain ⟨n, u, hn, rfl⟩ := zs_get hi hv
    have hnb := hb n (List.mem_of_getElem? hn)
    replace F₁ := expose2 F₁ (x1 := Str.ofString "place") rfl (x2 := Str.ofString "value") e1
    have hsum : ((nsum (row.take (i + 1)) : Nat) : Int) = Builtin.bitXor ((nsum (row.take i) : Nat) : Int) ((worth n : Nat) : Int) := by
      rw [List.take_add_one, hn, bitXor_nat]; simp [nsum]
    k_extra "MY steps"
    refine tturn hTT [] (by assumption) (by assumption) (fun p hp => hp) rfl ⟨rfl, ?_⟩
    rw [hsum]
    exact ⟨_, rfl⟩
  · clear F1 N1
    rintro m₁ nx h tk _ ⟨rfl, ⟨t, e1⟩⟩ F₁ N₁
    replace F₁ := expose1 F₁ e1
    k_extra "MY steps"
    refine cend_int (by assumption) ?_
    rw [List.take_of_length_le]
    have := hi.length
    simp at this; omega
end
end
/-! part WuBis -/
noncomputable section
theorem reset_WuBis : True := by
  w_top off
  k_with_none
  (k_with "MY got" => (intro _ _ _ _ _ _; (try dsimp only); (try k_sweep)))
  (k_with "MY gotb" => (intro _ _ _ _ _; (try dsimp only); (try k_sweep)))
  (k_with "MY abs" => (refine abs_post ?_; intro _ _))
  (k_with "MY end" => ((fail_if_success (with_reducible show wpAny _ _ _ _ _ _)); (first | with_reducible refine TSeq.next (by assumption) _ ?_ | with_reducible refine TSeq.ret (by assumption) _ _ ?_ | with_reducible refine AbsQ.of (by assumption) _ _ ?_); (try dsimp only)))
  (k_with "execs cons" => (k_here; (try k_gentoks); (try k_made); (with_reducible refine seq_abs ?_); intro _ _; (try dsimp only)))
  (k_with "MY enter" => (
  intro _ _ _ _ _ _ _ _ _ _ _ _ _ _ _ _ _
  (try dsimp only)
  k_fold
  (try k_extra "MY abs")))
  (k_with "MY stop" => (
  (fail_if_success (with_reducible show Exists _));
  (fail_if_success (with_reducible show LCt.CompSrcT _ _ _ _ _ _ _ _ _ _ _ _ _ _ _));
  (fail_if_success (with_reducible show LCg.CompSrc _ _ _ _ _ _ _ _ _ _ _ _ _ _));
  (first | (with_reducible show Frag.In _ _ ∧ _) | (with_reducible show FnAt _ _ ∧ _) | (fail_if_success (with_reducible show And _ _)));
  (fail_if_success (with_reducible show wpAny _ _ (eval (Expr.ListComp _ _ _ _) _) _ _ _));
  (fail_if_success (with_reducible show wpAny _ _ (pyIter _) _ _ _));
  (fail_if_success (with_reducible show wpAny _ _ (exec (Stmt.Assign _ (Expr.ListComp _ _ _ _) _) _) _ _ _));
  (fail_if_success (with_reducible show wpAny _ _ (exec (Stmt.While _ _ _ _) _) _ _ _));
  (fail_if_success (with_reducible show wpAny _ _ (exec (Stmt.For _ _ _ _ _) _) _ _ _))))
  (k_with "MY one" => first
  | k_extra "MY end"
  | (k_unfold; (try dsimp only))
  | walk1
  | (dsimp only; walk1)
  | (dsimp only; k_unfold; (try dsimp only))
  | (leave1; walk_say "STEP leave1"; try dsimp only)
  | fail "no step")
  (k_with "MY steps" => w_strict (repeat' (k_extra "MY stop"; k_extra "MY one")))
  (k_with "MY at" => (exact At.of (by k_asm) (by k_asm) (by k_asm) (by k_asm) (by exact rfl) (by exact rfl) (by exact rfl) (by exact rfl) (by k_extra "MY room") (by k_extra "MY room")))
  (k_with "MY room" => first | decide | ((try dsimp only [Around.deeper]); first | with_reducible exact roomD (by assumption) (by decide) | with_reducible exact roomD2 (by assumption) (by decide) | with_reducible exact roomU (by assumption) (by decide) | with_reducible exact roomU2 (by assumption) (by decide) | omega))
  (k_with "MY stage" => (
  refine ⟨_, _, _, _, _, _, _, _, _, _, _, _, _, _, _, by k_is, ?_⟩))
  (k_with "MY steps2" => w_strict (repeat' (k_extra "MY stop"; (fail_if_success (with_reducible show wpAny _ _ (execs (Stmt.For _ _ _ _ _ :: _) _) _ _ _)); k_extra "MY one")))
  (k_with "MY sub" => first | exact sub_nil | exact sub_cons (by k_mem) (by k_extra "MY sub"))
  (k_with "MY off" => first | exact trivial | exact And.intro (by k_ne) (by k_extra "MY off"))
  trivial
section
variable {prog : Program} {w : World} {p : Program} {loose : List Str} {mean : ExcName → Option Value} {mg mb : Str → Option Value}
theorem At.kin {A : Around} {dk : Nat} {h : Heap} (hat : At w p loose mean mg mb A dk h) : (Mine.hd.heap_39 w.params).In h := by
  obtain ⟨_, _, _, A₀, base, env, outer, h₀, L, m, B, F, X, T, hA, hf, hke⟩ := hat
  exact X.keeps F.keep
abbrev CtrK (prog : Program) (w : World) (A : Around) (s : Shared) (f : Addr) (args : List Value) (kw : List (Str × Value)) (P : Heap → Value → Heap → Prop) : Prop :=
  wpAny (model prog w) A (call (.ref f) args kw) (fun v s' => Grown s s' ∧ P s.heap v s'.heap) (fun _ _ => False) s
theorem enter_kw {A : Around} {dk : Nat} {s : Shared} {P : Heap → Value → Heap → Prop} {name qual : Str} {params : Arguments} {body : List Stmt} {scope : Scope} {dV kV doc pm cdv ct oc : Value} {an od : Option Addr} {osl : Array (Option Value)} {f : Addr} {args : List Value} {kw binds : List (Str × Value)}
    (hat : At w p loose mean mg mb A (dk + 1) s.heap)
    (ho : (Mine.hd.heap_39 w.params).lookup f = some ⟨oc, od, .func (fnOf name qual params body scope dV kV doc pm an cdv ct), osl⟩) (hcd : codeIn (Mine.hd.heap_39 w.params) cdv qual = true)
    (hbind : BindsTo s (fnOf name qual params body scope dV kV doc pm an cdv ct) ⟨args, kw⟩ binds) (hloc : ∀ y ∈ binds, scope.names.lookup y.1 = some .local)
    (hco : scope.isCoroutine = false) (hgen : scope.isGenerator = false) (hk : scope.kind = .function) (hcell : ∀ x ∈ scope.names, x.2 ≠ .cell)
    (h : ∀ g L' h₁ env outer base dp un gd, s.heap.StaysIn g → Fr g L' h₁ (fun y => binds.reverse.lookup y) → News g L' h₁ [] → Below { handled := none, depth := dp, frames := some (env :: outer), guards := gd, units := un : Around } base (env :: outer) g → (Mine.hd.heap_39 w.params).In g → Top p loose mean mg mb g →
      dp + dk + 1 < recursionLimit → un + 8 * dk + 108 < cLine →
      wpAny (model prog w) (Around.deeper { handled := none, depth := dp, frames := some (env :: outer), guards := gd, units := un : Around } (envOf qual scope L' f cdv)) (execs body (envOf qual scope L' f cdv))
        (fun fl s' => CEnd g s P (match fl with | .ret v => v | _ => .none) s')
        (fun _ _ => False)
        { s with heap := h₁, toks := s.toks + binds.length }) :
    CtrK prog w A s f args kw P := by
  obtain ⟨hh, hd, hu, A₀, base, env, outer, h₀, L, m, B, F, X, T, hA, hf, hke⟩ := hat
  obtain ⟨ah, ad, af, ag, au⟩ := A
  simp only at hh hd hu hA
  subst hh hA
  refine wpAny_call ?_
  refine code_defG B F X (N := News.nil) T rfl hf hke ho hcd (by show ad < _; omega) hbind hloc ?_ hco hgen hk hcell
  intro g L' h₁ FG F' N' B' X' T' G'
  have st : s.heap.StaysIn g := fun b o e => G' b o e (fun hm => nomatch hm)
  refine wpAny_mono (h g L' h₁ env outer base ad au ag st F' N' B' X' T' (by omega) (by omega)) (fun fl s' q => ?_) (fun _ _ x => x.elim)
  obtain ⟨L'', m'', h', tk', rfl, F'', q⟩ := q
  exact leaveK_ F'' News.nil fun _ _ => ⟨⟨h', tk', rfl, fun b o e => F''.keep b o (st b o e)⟩, q⟩
theorem item_ints {A : Around} {s : Shared} {h₀ : Heap} {L : Addr} {m : Str → Option Value} {value slice : PySem.Expr} {l : Addr} {vs : List Value} {ns : List Int} {k : Int} {u : Tok} {Q E : Value → Shared → Prop} (F : Fr h₀ L s.heap m) (hl : h₀.IsList l vs.toArray) (hi : IntsAre vs ns) (h0 : 0 ≤ k) (h1 : k < ns.length) (hf : ns.length < 2 ^ 60)
    (h : ∀ t, Q (.int (ns.getD k.toNat 0) t) s)
    (hs : subscripted slice false (.ref l) (.int k u) = operate [.ref l, .int k u] (getItem (.ref l) (.int k u)) := by with_unfolding_all rfl) :
    wpAny (model prog w) A (subscriptTail value slice (.ref l) (.int k u)) Q E s := by
  have hls : s.heap.IsList l vs.toArray := hl.at fun o e => F.keep l o e
  have hk : k.toNat < ns.length := by omega
  obtain ⟨t, hx⟩ := hi.get k.toNat ns[k.toNat] (by simp [hk])
  have e : ns.getD k.toNat 0 = ns[k.toNat] := by rw [List.getD_eq_getElem?_getD, List.getElem?_eq_getElem hk]; rfl
  refine tail_any hls.typeIs slot_list_getitem.lookup (wpAny_getItem_list hls h0 (by omega) (by simpa using hx) ?_) hs
  have := h t
  rw [e] at this; exact this
theorem sorted_le {l : List Int} (hl : l.Pairwise (· ≤ ·)) {i j : Nat} (hij : i ≤ j) (hj : j < l.length) : l.getD i 0 ≤ l.getD j 0 := sorted_getD_le hl hij hj
theorem countP_split {l : List Int} {p : Int → Bool} {k : Nat} (hk : k ≤ l.length) (h1 : ∀ j, j < k → p (l.getD j 0) = true) (h2 : ∀ j, k ≤ j → j < l.length → p (l.getD j 0) = false) : l.countP p = k := by
  have e : l = l.take k ++ l.drop k := (List.take_append_drop k l).symm
  rw [e, List.countP_append]
  have a : (l.take k).countP p = k := by
    have : (l.take k).countP p = (l.take k).length := by
      rw [List.countP_eq_length]
      intro x hx
      obtain ⟨j, hj, rfl⟩ := List.getElem_of_mem hx
      have hj' : j < k := by simp at hj; omega
      have := h1 j hj'
      rw [List.getD_eq_getElem?_getD, List.getElem?_eq_getElem (by omega)] at this
      simpa using this
    rw [this, List.length_take]; omega
  have b : (l.drop k).countP p = 0 := by
    rw [List.countP_eq_zero]
    intro x hx
    obtain ⟨j, hj, rfl⟩ := List.getElem_of_mem hx
    have hj' : k + j < l.length := by simp at hj; omega
    have := h2 (k + j) (by omega) hj'
    rw [List.getD_eq_getElem?_getD, List.getElem?_eq_getElem hj'] at this
    simp at this ⊢
    simp [this]
  rw [a, b, Nat.add_zero]
theorem lay_bis_1 : True := by
  (k_with "subscriptTail" => (k_here; (with_reducible show wpAny _ _ (subscriptTail _ _ (Value.ref _) (Value.int _ _)) _ _ _); (refine' item_ints (by k_asm) (by assumption) (by assumption) (by omega) (by omega) (by omega) ?_); intro _))
  trivial
theorem bisect_left_c {A : Around} {s : Shared} {l : Addr} {vs : List Value} {ns : List Int} {x : Int} {t : Tok} (hat : At w p loose mean mg mb A 1 s.heap) (hl : s.heap.IsList l vs.toArray) (hi : IntsAre vs ns) (hf : ns.length < 2 ^ 50) (hs : ns.Pairwise (· ≤ ·)) :
    CtrK prog w A s 104 [.ref l, .int x t] [] (IntV ((ns.countP (fun y => decide (y < x)) : Nat) : Int)) := by
  refine enter_kw (dk := 0) (binds := [(Str.ofString "a", .ref l), (Str.ofString "x", .int x t), (Str.ofString "lo", .int 0 291), (Str.ofString "hi", .none), (Str.ofString "key", .none)]) hat (by k_is) (by k_is) (kp_binds hat.kin (by intro S; kernel_rfl)) (locs rfl) rfl rfl rfl (by decide) ?_
  walk_at "MY bl"
  rename Fr _ _ _ _ => F1
  rename News _ _ _ _ => N1
  rename Heap.IsList _ l _ => hlg
  refine While_T (fun i m nx => nx = [] ∧ ∃ (lo hi : Nat) (t1 t2 : Tok), i = hi - lo ∧ m (Str.ofString "lo") = some (.int (lo : Int) t1) ∧ m (Str.ofString "hi") = some (.int (hi : Int) t2) ∧ m (Str.ofString "a") = some (.ref l) ∧ m (Str.ofString "x") = some (.int x t) ∧ m (Str.ofString "key") = some .none ∧ lo ≤ hi ∧ hi ≤ ns.length ∧
    (∀ j, j < lo → decide (ns.getD j 0 < x) = true) ∧ (∀ j, hi ≤ j → j < ns.length → decide (ns.getD j 0 < x) = false)) (n₀ := ns.length - 0) F1 N1 ?_ ?_ PassesOwn.never
  · exact ⟨rfl, 0, ns.length, _, _, rfl, rfl, rfl, rfl, rfl, rfl, Nat.zero_le _, Nat.le_refl _, fun j hj => absurd hj (Nat.not_lt_zero _), fun j h1 h2 => absurd h2 (Nat.not_lt.mpr h1)⟩
  · clear F1 N1
    rintro i m₁ nx h₁ tk₁ TW hTW F₁ N₁ ⟨rfl, lo, hi', t1, t2, rfl, e1, e2, e3, e4, e5, b1, b2, q1, q2⟩
    replace F₁ := expose5 F₁ e1 e2 e3 e4 e5
    have hmid : Int.fdiv ((lo : Int) + (hi' : Int)) 2 = (((lo + hi') / 2 : Nat) : Int) := by rw [Int.fdiv_eq_ediv_of_nonneg _ (by omega)]; omega
    have hm2 : (((lo + hi') / 2 : Nat) : Int).toNat = (lo + hi') / 2 := Int.toNat_natCast _
    k_extra "MY steps"
    · rename Fr _ _ _ _ => F3
      rename ns.getD _ 0 < x => hc
      rw [hmid, hm2] at hc
      rw [hmid] at F3
      refine hTW (hi' - ((lo + hi') / 2 + 1)) _ _ _ _ (by omega) F3 News.nil ⟨rfl, (lo + hi') / 2 + 1, hi', _, _, rfl, rfl, rfl, rfl, rfl, rfl, by omega, b2, fun j hj => ?_, q2⟩
      have := sorted_le hs (i := j) (j := (lo + hi') / 2) (by omega) (by omega)
      exact decide_eq_true (by omega)
    · rename Fr _ _ _ _ => F3
      rename ¬ (ns.getD _ 0 < x) => hc
      rw [hmid, hm2] at hc
      rw [hmid] at F3
      refine hTW ((lo + hi') / 2 - lo) _ _ _ _ (by omega) F3 News.nil ⟨rfl, lo, (lo + hi') / 2, _, _, rfl, rfl, rfl, rfl, rfl, rfl, by omega, by omega, q1, fun j h1 h2 => ?_⟩
      have := sorted_le hs (i := (lo + hi') / 2) (j := j) (by omega) (by omega)
      exact decide_eq_false (by omega)
    · refine cend_int (by assumption) ?_
      have hlh : lo = hi' := by omega
      subst hlh
      rw [countP_split b2 q1 q2]
theorem bisect_left_c4 {A : Around} {s : Shared} {l : Addr} {vs : List Value} {ns : List Int} {x : Int} {t tl : Tok} (hat : At w p loose mean mg mb A 1 s.heap) (hl : s.heap.IsList l vs.toArray) (hi : IntsAre vs ns) (hf : ns.length < 2 ^ 50) (hs : ns.Pairwise (· ≤ ·)) :
    CtrK prog w A s 104 [.ref l, .int x t, .int 0 tl, .none] [] (IntV ((ns.countP (fun y => decide (y < x)) : Nat) : Int)) := by
  refine enter_kw (dk := 0) (binds := [(Str.ofString "a", .ref l), (Str.ofString "x", .int x t), (Str.ofString "lo", .int 0 tl), (Str.ofString "hi", .none), (Str.ofString "key", .none)]) hat (by k_is) (by k_is) (kp_binds hat.kin (by intro S; kernel_rfl)) (locs rfl) rfl rfl rfl (by decide) ?_
  walk_at "MY bl"
  rename Fr _ _ _ _ => F1
  rename News _ _ _ _ => N1
  rename Heap.IsList _ l _ => hlg
  refine While_T (fun i m nx => nx = [] ∧ ∃ (lo hi : Nat) (t1 t2 : Tok), i = hi - lo ∧ m (Str.ofString "lo") = some (.int (lo : Int) t1) ∧ m (Str.ofString "hi") = some (.int (hi : Int) t2) ∧ m (Str.ofString "a") = some (.ref l) ∧ m (Str.ofString "x") = some (.int x t) ∧ m (Str.ofString "key") = some .none ∧ lo ≤ hi ∧ hi ≤ ns.length ∧
    (∀ j, j < lo → decide (ns.getD j 0 < x) = true) ∧ (∀ j, hi ≤ j → j < ns.length → decide (ns.getD j 0 < x) = false)) (n₀ := ns.length - 0) F1 N1 ?_ ?_ PassesOwn.never
  · exact ⟨rfl, 0, ns.length, _, _, rfl, rfl, rfl, rfl, rfl, rfl, Nat.zero_le _, Nat.le_refl _, fun j hj => absurd hj (Nat.not_lt_zero _), fun j h1 h2 => absurd h2 (Nat.not_lt.mpr h1)⟩
  · clear F1 N1
    rintro i m₁ nx h₁ tk₁ TW hTW F₁ N₁ ⟨rfl, lo, hi', t1, t2, rfl, e1, e2, e3, e4, e5, b1, b2, q1, q2⟩
    replace F₁ := expose5 F₁ e1 e2 e3 e4 e5
    have hmid : Int.fdiv ((lo : Int) + (hi' : Int)) 2 = (((lo + hi') / 2 : Nat) : Int) := by rw [Int.fdiv_eq_ediv_of_nonneg _ (by omega)]; omega
    have hm2 : (((lo + hi') / 2 : Nat) : Int).toNat = (lo + hi') / 2 := Int.toNat_natCast _
    k_extra "MY steps"
    · rename Fr _ _ _ _ => F3
      rename ns.getD _ 0 < x => hc
      rw [hmid, hm2] at hc
      rw [hmid] at F3
      refine hTW (hi' - ((lo + hi') / 2 + 1)) _ _ _ _ (by omega) F3 News.nil ⟨rfl, (lo + hi') / 2 + 1, hi', _, _, rfl, rfl, rfl, rfl, rfl, rfl, by omega, b2, fun j hj => ?_, q2⟩
      have := sorted_le hs (i := j) (j := (lo + hi') / 2) (by omega) (by omega)
      exact decide_eq_true (by omega)
    · rename Fr _ _ _ _ => F3
      rename ¬ (ns.getD _ 0 < x) => hc
      rw [hmid, hm2] at hc
      rw [hmid] at F3
      refine hTW ((lo + hi') / 2 - lo) _ _ _ _ (by omega) F3 News.nil ⟨rfl, lo, (lo + hi') / 2, _, _, rfl, rfl, rfl, rfl, rfl, rfl, by omega, by omega, q1, fun j h1 h2 => ?_⟩
      have := sorted_le hs (i := (lo + hi') / 2) (j := j) (by omega) (by omega)
      exact decide_eq_false (by omega)
    · refine cend_int (by assumption) ?_
      have hlh : lo = hi' := by omega
      subst hlh
      rw [countP_split b2 q1 q2]
end
end
/-! part WuTurn -/
noncomputable section
theorem reset_WuTurn : True := by
  w_top off
  k_with_none
  (k_with "MY got" => (intro _ _ _ _ _ _; (try dsimp only); (try k_sweep)))
  (k_with "MY gotb" => (intro _ _ _ _ _; (try dsimp only); (try k_sweep)))
  (k_with "MY abs" => (refine abs_post ?_; intro _ _))
  (k_with "MY end" => ((fail_if_success (with_reducible show wpAny _ _ _ _ _ _)); (first | with_reducible refine TSeq.next (by assumption) _ ?_ | with_reducible refine TSeq.ret (by assumption) _ _ ?_ | with_reducible refine AbsQ.of (by assumption) _ _ ?_); (try dsimp only)))
  (k_with "execs cons" => (k_here; (try k_gentoks); (try k_made); (with_reducible refine seq_abs ?_); intro _ _; (try dsimp only)))
  (k_with "MY enter" => (
  intro _ _ _ _ _ _ _ _ _ _ _ _ _ _ _ _ _
  (try dsimp only)
  k_fold
  (try k_extra "MY abs")))
  (k_with "MY stop" => (
  (fail_if_success (with_reducible show Exists _));
  (fail_if_success (with_reducible show LCt.CompSrcT _ _ _ _ _ _ _ _ _ _ _ _ _ _ _));
  (fail_if_success (with_reducible show LCg.CompSrc _ _ _ _ _ _ _ _ _ _ _ _ _ _));
  (first | (with_reducible show Frag.In _ _ ∧ _) | (with_reducible show FnAt _ _ ∧ _) | (fail_if_success (with_reducible show And _ _)));
  (fail_if_success (with_reducible show wpAny _ _ (eval (Expr.ListComp _ _ _ _) _) _ _ _));
  (fail_if_success (with_reducible show wpAny _ _ (pyIter _) _ _ _));
  (fail_if_success (with_reducible show wpAny _ _ (exec (Stmt.Assign _ (Expr.ListComp _ _ _ _) _) _) _ _ _));
  (fail_if_success (with_reducible show wpAny _ _ (exec (Stmt.While _ _ _ _) _) _ _ _));
  (fail_if_success (with_reducible show wpAny _ _ (exec (Stmt.For _ _ _ _ _) _) _ _ _))))
  (k_with "MY one" => first
  | k_extra "MY end"
  | (k_unfold; (try dsimp only))
  | walk1
  | (dsimp only; walk1)
  | (dsimp only; k_unfold; (try dsimp only))
  | (leave1; walk_say "STEP leave1"; try dsimp only)
  | fail "no step")
  (k_with "MY steps" => w_strict (repeat' (k_extra "MY stop"; k_extra "MY one")))
  (k_with "MY at" => (exact At.of (by k_asm) (by k_asm) (by k_asm) (by k_asm) (by exact rfl) (by exact rfl) (by exact rfl) (by exact rfl) (by k_extra "MY room") (by k_extra "MY room")))
  (k_with "MY room" => first | decide | ((try dsimp only [Around.deeper]); first | with_reducible exact roomD (by assumption) (by decide) | with_reducible exact roomD2 (by assumption) (by decide) | with_reducible exact roomU (by assumption) (by decide) | with_reducible exact roomU2 (by assumption) (by decide) | omega))
  (k_with "MY stage" => (
  refine ⟨_, _, _, _, _, _, _, _, _, _, _, _, _, _, _, by k_is, ?_⟩))
  (k_with "MY steps2" => w_strict (repeat' (k_extra "MY stop"; (fail_if_success (with_reducible show wpAny _ _ (execs (Stmt.For _ _ _ _ _ :: _) _) _ _ _)); k_extra "MY one")))
  (k_with "MY sub" => first | exact sub_nil | exact sub_cons (by k_mem) (by k_extra "MY sub"))
  (k_with "MY off" => first | exact trivial | exact And.intro (by k_ne) (by k_extra "MY off"))
  trivial
section
variable {prog : Program} {w : World} {p : Program} {loose : List Str} {mean : ExcName → Option Value} {mg mb : Str → Option Value}
/-- a place where a list of the caller's own ledger is handed on, to be changed -/
structure AtM (w : World) (p : Program) (loose : List Str) (mean : ExcName → Option Value) (mg mb : Str → Option Value) (A : Around) (dk : Nat) (h : Heap) (r : Addr) (o : Obj) : Prop where
  hh : A.handled = none
  dep : A.depth + dk < recursionLimit
  uni : A.units + 8 * dk + 100 < cLine
  fr : ∃ A₀ base env outer h₀ L m, Below A₀ base outer h₀ ∧ Fr h₀ L h m ∧ (Mine.hd.heap_39 w.params).In h₀ ∧ Top p loose mean mg mb h₀ ∧ A.frames = some (env :: outer) ∧ env.frame = some L ∧ env.scope.kind = .function ∧ News h₀ L h [(r, o)]
theorem AtM.of {A A₀ : Around} {base h₀ h : Heap} {env : Env} {outer : List Env} {L : Addr} {m : Str → Option Value} {dk : Nat} {r : Addr} {o : Obj} {news : List (Addr × Obj)} (B : Below A₀ base outer h₀) (F : Fr h₀ L h m) (X : (Mine.hd.heap_39 w.params).In h₀) (T : Top p loose mean mg mb h₀) (N : News h₀ L h news) (hm : (r, o) ∈ news)
    (hA : A.frames = some (env :: outer)) (hf : env.frame = some L) (hk : env.scope.kind = .function) (hh : A.handled = none) (hd : A.depth + dk < recursionLimit) (hu : A.units + 8 * dk + 100 < cLine) : AtM w p loose mean mg mb A dk h r o :=
  ⟨hh, hd, hu, A₀, base, env, outer, h₀, L, m, B, F, X, T, hA, hf, hk, fun q hq => by rw [List.mem_singleton.mp hq]; exact N _ hm⟩
theorem AtM.kin {A : Around} {dk : Nat} {h : Heap} {r : Addr} {o : Obj} (hat : AtM w p loose mean mg mb A dk h r o) : (Mine.hd.heap_39 w.params).In h := by
  obtain ⟨_, _, _, A₀, base, env, outer, h₀, L, m, B, F, X, T, hA, hf, hke, _⟩ := hat
  exact X.keeps F.keep
/-- all but r stands as it stood -/
def ButR (r : Addr) (h h' : Heap) : Prop := ∀ b o, b ≠ r → h.get? b = some o → h'.get? b = some o
abbrev MCtr (prog : Program) (w : World) (A : Around) (s : Shared) (f : Addr) (args : List Value) (r : Addr) (R : List Int) : Prop :=
  wpAny (model prog w) A (call (.ref f) args []) (fun v s' => v = .none ∧ ∃ h' tk' vs' n', s' = { s with heap := h', toks := tk' } ∧ ButR r s.heap h' ∧ h'.get? r = some (PySem.W.listOf (List.toArray vs') n') ∧ IntsAre vs' R) (fun _ _ => False) s
def MEnd (g : Heap) (s : Shared) (r : Addr) (R : List Int) (v : Value) (s' : Shared) : Prop :=
  v = .none ∧ ∃ L'' m'' h' tk' vs' n', s' = { s with heap := h', toks := tk' } ∧ Fr g L'' h' m'' ∧ News g L'' h' [(r, PySem.W.listOf (List.toArray vs') n')] ∧ IntsAre vs' R
theorem mend {g h' : Heap} {s : Shared} {r L'' : Addr} {R : List Int} {m'' : Str → Option Value} {tk' n' : Nat} {vs' : List Value} {news : List (Addr × Obj)} (F : Fr g L'' h' m'') (N : News g L'' h' news) (hm : (r, PySem.W.listOf (List.toArray vs') n') ∈ news) (hi : IntsAre vs' R) : MEnd g s r R .none { s with heap := h', toks := tk' } :=
  ⟨rfl, L'', m'', h', tk', vs', n', rfl, F, fun q hq => by rw [List.mem_singleton.mp hq]; exact N _ hm, hi⟩
theorem enter_mut {A : Around} {dk : Nat} {s : Shared} {r : Addr} {o : Obj} {R : List Int} {name qual : Str} {params : Arguments} {body : List Stmt} {scope : Scope} {dV kV doc pm cdv ct oc : Value} {an od : Option Addr} {osl : Array (Option Value)} {f : Addr} {args : List Value} {binds : List (Str × Value)}
    (hat : AtM w p loose mean mg mb A (dk + 1) s.heap r o)
    (ho : (Mine.hd.heap_39 w.params).lookup f = some ⟨oc, od, .func (fnOf name qual params body scope dV kV doc pm an cdv ct), osl⟩) (hcd : codeIn (Mine.hd.heap_39 w.params) cdv qual = true)
    (hbind : BindsTo s (fnOf name qual params body scope dV kV doc pm an cdv ct) ⟨args, []⟩ binds) (hloc : ∀ y ∈ binds, scope.names.lookup y.1 = some .local)
    (hco : scope.isCoroutine = false) (hgen : scope.isGenerator = false) (hk : scope.kind = .function) (hcell : ∀ x ∈ scope.names, x.2 ≠ .cell)
    (h : ∀ g L' h₁ env outer base dp un gd, ButR r s.heap g → Fr g L' h₁ (fun y => binds.reverse.lookup y) → News g L' h₁ [(r, o)] → Below { handled := none, depth := dp, frames := some (env :: outer), guards := gd, units := un : Around } base (env :: outer) g → (Mine.hd.heap_39 w.params).In g → Top p loose mean mg mb g →
      dp + dk + 1 < recursionLimit → un + 8 * dk + 108 < cLine →
      wpAny (model prog w) (Around.deeper { handled := none, depth := dp, frames := some (env :: outer), guards := gd, units := un : Around } (envOf qual scope L' f cdv)) (execs body (envOf qual scope L' f cdv))
        (fun fl s' => MEnd g s r R (match fl with | .ret v => v | _ => .none) s')
        (fun _ _ => False)
        { s with heap := h₁, toks := s.toks + binds.length }) :
    MCtr prog w A s f args r R := by
  obtain ⟨hh, hd, hu, A₀, base, env, outer, h₀, L, m, B, F, X, T, hA, hf, hke, N⟩ := hat
  obtain ⟨ah, ad, af, ag, au⟩ := A
  simp only at hh hd hu hA
  subst hh hA
  refine wpAny_call ?_
  refine code_defG B F X (N := N) T rfl hf hke ho hcd (by show ad < _; omega) hbind hloc ?_ hco hgen hk hcell
  intro g L' h₁ FG F' N' B' X' T' G'
  have st : ButR r s.heap g := fun b o' hb e => G' b o' e (fun hm => hb (List.mem_singleton.mp hm))
  refine wpAny_mono (h g L' h₁ env outer base ad au ag st F' N' B' X' T' (by omega) (by omega)) (fun fl s' q => ?_) (fun _ _ x => x.elim)
  obtain ⟨hv, L'', m'', h', tk', vs', n', rfl, F'', N'', hi⟩ := q
  refine leaveK_ F'' N'' fun _ _ => ?_
  exact ⟨hv, h', tk', vs', n', rfl, fun b o' hb e => F''.keep b o' (st b o' hb e), (N'' _ (.head _)).1, hi⟩
theorem use_mut {A : Around} {s : Shared} {f r : Addr} {o : Obj} {args : List Value} {R : List Int} {Q E : Value → Shared → Prop} {h₀ : Heap} {L : Addr} {m : Str → Option Value} {news : List (Addr × Obj)} (rest : List (Addr × Obj)) (C : MCtr prog w A s f args r R) (F : Fr h₀ L s.heap m) (N : News h₀ L s.heap news) (hm : (r, o) ∈ news) (hr : ∀ q ∈ rest, q ∈ news ∧ q.1 ≠ r)
    (h : ∀ vs' n' h' tk', ButR r s.heap h' → Fr h₀ L h' m → News h₀ L h' ((r, PySem.W.listOf (List.toArray vs') n') :: rest) → IntsAre vs' R → Q .none { s with heap := h', toks := tk' }) : wpAny (model prog w) A (call (.ref f) args []) Q E s := by
  refine wpAny_mono C (fun v s' q => ?_) (fun _ _ x => x.elim)
  obtain ⟨rfl, h', tk', vs', n', rfl, st, hr', hi⟩ := q
  have D := (N _ hm).2
  refine h vs' n' h' tk' st ⟨F.ns.at' fun o' e => st _ o' (Ne.symm D.1) e, fun b o' e => st b o' (fun q => ?_) (F.keep b o' e), F.above⟩ (fun q hq => ?_) hi
  · rw [q, D.2] at e; cases e
  · rcases List.mem_cons.mp hq with rfl | hq
    · exact ⟨hr', D⟩
    · have z := hr q hq
      exact ⟨st _ _ z.2 (N _ z.1).1, (N _ z.1).2⟩
theorem ints_erase {vs : List Value} {ns : List Int} (hi : IntsAre vs ns) (k : Nat) : IntsAre (vs.eraseIdx k) (ns.eraseIdx k) := by
  rw [List.eraseIdx_eq_take_drop_succ, List.eraseIdx_eq_take_drop_succ]
  exact IntsAre.append (hi.take _) (hi.drop _)
theorem delitem_c {A : Around} {s : Shared} {r : Addr} {vs : List Value} {n : Nat} {ns : List Int} {k : Int} {t : Tok} (hat : AtM w p loose mean mg mb A 1 s.heap r (PySem.W.listOf (List.toArray vs) n)) (hi : IntsAre vs ns) (h0 : 0 ≤ k) (h1 : k < ns.length) (hf : ns.length < 2 ^ 20) :
    MCtr prog w A s 70 [.ref r, .int k t] r (ns.eraseIdx k.toNat) := by
  refine enter_mut (dk := 0) (binds := [(Str.ofString "a", .ref r), (Str.ofString "b", .int k t)]) hat (by k_is) (by k_is) (BindsTo.of_eq rfl) (locs rfl) rfl rfl rfl (by decide) ?_
  k_extra "MY enter"
  k_extra "MY steps"
  rename Fr _ _ _ _ => F1
  rename News _ _ _ _ => N1
  have hlen := hi.length
  have hk : seqIndex? k (List.toArray vs).size = some k.toNat := by
    have h2 : ¬ k < 0 := by omega
    have h3 : k < (vs.length : Int) := by omega
    simp [seqIndex?, h2, h0, h3]
  refine delItem_head F1 N1 (fun q hq => nomatch hq) (by simp [Builtin.List.listFitsIndex]; omega) hk ?_ (by rw [sizeLine_eq, List.size_toArray]; omega)
  intro h' F2 N2
  k_extra "MY steps"
  exact mend F2 N2 (.head _) (ints_erase hi _)
theorem lay_turn_1 : True := by
  (k_with "call ref" => (k_here; (with_reducible show wpAny _ _ (call (Value.ref 104) _) _ _ _); (refine' use_int (bisect_left_c4 (by k_extra "MY at") (by rename News _ _ _ _ => N9; exact isl_head N9) (by assumption) (by omega) (by assumption)) (by k_asm) (by k_asm) ?_); k_extra "MY got"))
  trivial
theorem insort_left_c {A : Around} {s : Shared} {r : Addr} {vs : List Value} {n : Nat} {ns : List Int} {x : Int} {t : Tok} (hat : AtM w p loose mean mg mb A 2 s.heap r (PySem.W.listOf (List.toArray vs) n)) (hi : IntsAre vs ns) (hs : ns.Pairwise (· ≤ ·)) (hf : ns.length < 2 ^ 20) :
    MCtr prog w A s 95 [.ref r, .int x t] r (ns.take (ns.countP fun y => decide (y < x)) ++ x :: ns.drop (ns.countP fun y => decide (y < x))) := by
  refine enter_mut (dk := 1) (binds := [(Str.ofString "a", .ref r), (Str.ofString "x", .int x t), (Str.ofString "lo", .int 0 278), (Str.ofString "hi", .none), (Str.ofString "key", .none)]) hat (by k_is) (by k_is) (kp_binds hat.kin (by intro S; kernel_rfl)) (locs rfl) rfl rfl rfl (by decide) ?_
  k_extra "MY enter"
  k_extra "MY steps"
  rename Fr _ _ _ _ => F1
  rename News _ _ _ _ => N1
  have hlen := hi.length
  have hc : (ns.countP fun y => decide (y < x)) ≤ ns.length := List.countP_le_length
  refine kl_insert F1 N1 (by simp [Builtin.List.listFitsIndex]; omega) rfl (.head (fun q hq => nomatch hq)) (by rw [sizeLine_eq]; simp; omega) ?_
  intro h' F2 N2
  k_extra "MY steps"
  refine mend F2 N2 (.head _) ?_
  have e1 : (if (((ns.countP fun y => decide (y < x)) : Nat) : Int) < 0 then ((((ns.countP fun y => decide (y < x)) : Nat) : Int) + (vs.length : Int)).toNat else min (((ns.countP fun y => decide (y < x)) : Nat) : Int).toNat vs.length) = (ns.countP fun y => decide (y < x)) := by
    rw [if_neg (by omega)]; omega
  show IntsAre (kl_ins vs _ _) _
  unfold kl_ins
  rw [e1]
  exact IntsAre.append (hi.take _) (.cons _ _ (hi.drop _))
/-- a head turned: taken away if it lies in the row, else laid in -/
def tog (l : List Nat) (n : Nat) : List Nat :=
  if (l.drop (l.countP (· < n))).head? = some n then l.eraseIdx (l.countP (· < n)) else l.take (l.countP (· < n)) ++ n :: l.drop (l.countP (· < n))
theorem zs_countP (l : List Nat) (n : Nat) : (zs l).countP (fun y => decide (y < (n : Int))) = l.countP (· < n) := by
  rw [List.countP_map]
  congr 1
  funext a
  simp
theorem zs_take (l : List Nat) (k : Nat) : (zs l).take k = zs (l.take k) := by simp [zs]
theorem zs_drop (l : List Nat) (k : Nat) : (zs l).drop k = zs (l.drop k) := by simp [zs]
theorem zs_erase (l : List Nat) (k : Nat) : (zs l).eraseIdx k = zs (l.eraseIdx k) := by
  simp [zs, List.eraseIdx_eq_take_drop_succ]
theorem zs_sorted {l : List Nat} (h : l.Pairwise (· < ·)) : (zs l).Pairwise (· ≤ ·) := by
  rw [zs, List.pairwise_map]
  exact h.imp fun q => by omega
theorem zs_length (l : List Nat) : (zs l).length = l.length := by simp [zs]
theorem slice_one {row : List Nat} {x c : Nat} (hc : c ≤ row.length) : List.take (min ((c : Int) + 1).toNat (zs row).length - (c : Int).toNat) (List.drop (c : Int).toNat (zs row)) = [(x : Int)] ↔ (row.drop c).head? = some x := by
  rw [Int.toNat_natCast, show ((c : Int) + 1).toNat = c + 1 by omega, zs_length, zs_drop]
  cases hd : row.drop c with
  | nil => simp [zs]
  | cons a t =>
    have hl : (row.drop c).length = row.length - c := List.length_drop
    rw [hd, List.length_cons] at hl
    rw [show min (c + 1) row.length - c = 1 by omega]
    simp [zs]
    omega
theorem lay_turn_2 : True := by
  (k_with "call ref" => (k_here; (with_reducible show wpAny _ _ (call (Value.ref 104) _) _ _ _); (refine' use_int (bisect_left_c (by k_extra "MY at") (by rename News _ _ _ _ => N9; exact isl_head N9) (by assumption) (by rw [zs_length]; omega) (by exact zs_sorted (by assumption))) (by k_asm) (by k_asm) ?_); k_extra "MY got"))
  trivial
theorem turn_c {A : Around} {s : Shared} {r : Addr} {vs : List Value} {n : Nat} {row : List Nat} {x : Nat} {t : Tok} (hat : AtM w p loose mean mg mb A 3 s.heap r (PySem.W.listOf (List.toArray vs) n)) (hi : IntsAre vs (zs row)) (hs : row.Pairwise (· < ·)) (hf : row.length < 2 ^ 19) :
    MCtr prog w A s 135 [.ref r, .int (x : Int) t] r (zs (tog row x)) := by
  refine enter_mut (dk := 2) (binds := [(Str.ofString "row", .ref r), (Str.ofString "place", .int (x : Int) t)]) hat (by k_is) (by k_is) (BindsTo.of_eq rfl) (locs rfl) rfl rfl rfl (by decide) ?_
  k_extra "MY enter"
  k_extra "MY steps"
  all_goals
    rename Fr _ _ _ _ => F1
    rename News _ _ _ _ => N1
    have hz := zs_countP row x
    have hc : row.countP (· < x) ≤ row.length := List.countP_le_length
  · rename List.take _ _ = [(x : Int)] => hq
    rw [hz, slice_one hc] at hq
    have hlt : row.countP (· < x) < row.length := by
      rcases Nat.lt_or_ge (row.countP (· < x)) row.length with q | q
      · exact q
      · rw [List.drop_of_length_le q] at hq; cases hq
    refine use_mut [] (delitem_c (p := p) (loose := loose) (mean := mean) (mg := mg) (mb := mb) (AtM.of (news := [_, _, _]) (by assumption) F1 (by assumption) (by assumption) N1 (.tail _ (.tail _ (.head _))) rfl rfl rfl rfl (by k_extra "MY room") (by k_extra "MY room")) hi (by omega) (by rw [hz, zs_length]; omega) (by rw [zs_length]; omega)) F1 N1 (.tail _ (.tail _ (.head _))) (fun q hq => nomatch hq) ?_
    intro vs' n' h' tk' _ F2 N2 hi2
    k_extra "MY steps"
    refine mend F2 N2 (.head _) ?_
    rw [hz, Int.toNat_natCast, zs_erase] at hi2
    rw [tog, if_pos hq]; exact hi2
  · rename ¬ (List.take _ _ = [(x : Int)]) => hq
    rw [hz, slice_one hc] at hq
    refine use_mut [] (insort_left_c (p := p) (loose := loose) (mean := mean) (mg := mg) (mb := mb) (AtM.of (news := [_, _, _]) (by assumption) F1 (by assumption) (by assumption) N1 (.tail _ (.tail _ (.head _))) rfl rfl rfl rfl (by k_extra "MY room") (by k_extra "MY room")) hi (zs_sorted hs) (by rw [zs_length]; omega)) F1 N1 (.tail _ (.tail _ (.head _))) (fun q hq => nomatch hq) ?_
    intro vs' n' h' tk' _ F2 N2 hi2
    k_extra "MY steps"
    refine mend F2 N2 (.head _) ?_
    rw [hz, zs_take, zs_drop] at hi2
    rw [tog, if_neg hq]
    have : zs (row.take (row.countP (· < x)) ++ x :: row.drop (row.countP (· < x))) = zs (row.take (row.countP (· < x))) ++ (x : Int) :: zs (row.drop (row.countP (· < x))) := by simp [zs]
    rw [this]; exact hi2
end
end
/-! part WuKey -/
noncomputable section
theorem reset_WuKey : True := by
  w_top off
  k_with_none
  (k_with "MY got" => (intro _ _ _ _ _ _; (try dsimp only); (try k_sweep)))
  (k_with "MY gotb" => (intro _ _ _ _ _; (try dsimp only); (try k_sweep)))
  (k_with "MY abs" => (refine abs_post ?_; intro _ _))
  (k_with "MY end" => ((fail_if_success (with_reducible show wpAny _ _ _ _ _ _)); (first | with_reducible refine TSeq.next (by assumption) _ ?_ | with_reducible refine TSeq.ret (by assumption) _ _ ?_ | with_reducible refine AbsQ.of (by assumption) _ _ ?_); (try dsimp only)))
  (k_with "execs cons" => (k_here; (try k_gentoks); (try k_made); (with_reducible refine seq_abs ?_); intro _ _; (try dsimp only)))
  (k_with "MY enter" => (
  intro _ _ _ _ _ _ _ _ _ _ _ _ _ _ _ _ _
  (try dsimp only)
  k_fold
  (try k_extra "MY abs")))
  (k_with "MY stop" => (
  (fail_if_success (with_reducible show Exists _));
  (fail_if_success (with_reducible show LCt.CompSrcT _ _ _ _ _ _ _ _ _ _ _ _ _ _ _));
  (fail_if_success (with_reducible show LCg.CompSrc _ _ _ _ _ _ _ _ _ _ _ _ _ _));
  (first | (with_reducible show Frag.In _ _ ∧ _) | (with_reducible show FnAt _ _ ∧ _) | (fail_if_success (with_reducible show And _ _)));
  (fail_if_success (with_reducible show wpAny _ _ (eval (Expr.ListComp _ _ _ _) _) _ _ _));
  (fail_if_success (with_reducible show wpAny _ _ (pyIter _) _ _ _));
  (fail_if_success (with_reducible show wpAny _ _ (exec (Stmt.Assign _ (Expr.ListComp _ _ _ _) _) _) _ _ _));
  (fail_if_success (with_reducible show wpAny _ _ (exec (Stmt.While _ _ _ _) _) _ _ _));
  (fail_if_success (with_reducible show wpAny _ _ (exec (Stmt.For _ _ _ _ _) _) _ _ _))))
  (k_with "MY one" => first
  | k_extra "MY end"
  | (k_unfold; (try dsimp only))
  | walk1
  | (dsimp only; walk1)
  | (dsimp only; k_unfold; (try dsimp only))
  | (leave1; walk_say "STEP leave1"; try dsimp only)
  | fail "no step")
  (k_with "MY steps" => w_strict (repeat' (k_extra "MY stop"; k_extra "MY one")))
  (k_with "MY at" => (exact At.of (by k_asm) (by k_asm) (by k_asm) (by k_asm) (by exact rfl) (by exact rfl) (by exact rfl) (by exact rfl) (by k_extra "MY room") (by k_extra "MY room")))
  (k_with "MY room" => first | decide | ((try dsimp only [Around.deeper]); first | with_reducible exact roomD (by assumption) (by decide) | with_reducible exact roomD2 (by assumption) (by decide) | with_reducible exact roomU (by assumption) (by decide) | with_reducible exact roomU2 (by assumption) (by decide) | omega))
  (k_with "MY stage" => (
  refine ⟨_, _, _, _, _, _, _, _, _, _, _, _, _, _, _, by k_is, ?_⟩))
  (k_with "MY steps2" => w_strict (repeat' (k_extra "MY stop"; (fail_if_success (with_reducible show wpAny _ _ (execs (Stmt.For _ _ _ _ _ :: _) _) _ _ _)); k_extra "MY one")))
  (k_with "MY sub" => first | exact sub_nil | exact sub_cons (by k_mem) (by k_extra "MY sub"))
  (k_with "MY off" => first | exact trivial | exact And.intro (by k_ne) (by k_extra "MY off"))
  trivial
theorem lay_key_1 : True := by
  (k_with "subscriptTail" => (k_here; (with_reducible show wpAny _ _ (subscriptTail _ _ (Value.ref _) (Value.int _ _)) _ _ _); (refine' item_ints (by k_asm) (by assumption) (by assumption) (by omega) (by omega) (by omega) ?_); intro _))
  trivial
/-- the worth of a place, an int's -/
def wo (n : Int) : Int := ((worth n.toNat : Nat) : Int)
theorem getD_in {ns : List Int} (hb : ∀ n ∈ ns, 0 ≤ n ∧ n < 2 ^ 30) {j : Nat} (hj : j < ns.length) : 0 ≤ ns.getD j 0 ∧ ns.getD j 0 < 2 ^ 30 := by
  rw [List.getD_eq_getElem?_getD, List.getElem?_eq_getElem hj]
  exact hb _ (List.getElem_mem hj)
section
variable {prog : Program} {w : World} {p : Program} {loose : List Str} {mean : ExcName → Option Value} {mg mb : Str → Option Value}
theorem bisect_left_key {A : Around} {s : Shared} {l : Addr} {vs : List Value} {ns : List Int} {x : Int} {t : Tok} (hat : At w p loose mean mg mb A 4 s.heap) (hl : s.heap.IsList l vs.toArray) (hi : IntsAre vs ns) (hf : ns.length < 2 ^ 50) (hb : ∀ n ∈ ns, 0 ≤ n ∧ n < 2 ^ 30) (hs : (ns.map wo).Pairwise (· ≤ ·)) :
    CtrK prog w A s 104 [.ref l, .int x t] [(Str.ofString "key", .ref 123)] (IntV (((ns.map wo).countP (fun y => decide (y < x)) : Nat) : Int)) := by
  refine enter_kw (dk := 3) (binds := [(Str.ofString "a", .ref l), (Str.ofString "x", .int x t), (Str.ofString "lo", .int 0 291), (Str.ofString "hi", .none), (Str.ofString "key", .ref 123)]) hat (by k_is) (by k_is) (kp_binds hat.kin (by intro S; kernel_rfl)) (locs rfl) rfl rfl rfl (by decide) ?_
  walk_at "MY bl"
  rename Fr _ _ _ _ => F1
  rename News _ _ _ _ => N1
  rename Heap.IsList _ l _ => hlg
  refine While_T (fun i m nx => nx = [] ∧ ∃ (lo hi : Nat) (t1 t2 : Tok), i = hi - lo ∧ m (Str.ofString "lo") = some (.int (lo : Int) t1) ∧ m (Str.ofString "hi") = some (.int (hi : Int) t2) ∧ m (Str.ofString "a") = some (.ref l) ∧ m (Str.ofString "x") = some (.int x t) ∧ m (Str.ofString "key") = some (.ref 123) ∧ lo ≤ hi ∧ hi ≤ ns.length ∧
    (∀ j, j < lo → decide ((ns.map wo).getD j 0 < x) = true) ∧ (∀ j, hi ≤ j → j < ns.length → decide ((ns.map wo).getD j 0 < x) = false)) (n₀ := ns.length - 0) F1 N1 ?_ ?_ PassesOwn.never
  · exact ⟨rfl, 0, ns.length, _, _, rfl, rfl, rfl, rfl, rfl, rfl, Nat.zero_le _, Nat.le_refl _, fun j hj => absurd hj (Nat.not_lt_zero _), fun j h1 h2 => absurd h2 (Nat.not_lt.mpr h1)⟩
  · clear F1 N1
    rintro i m₁ nx h₁ tk₁ TW hTW F₁ N₁ ⟨rfl, lo, hi', t1, t2, rfl, e1, e2, e3, e4, e5, b1, b2, q1, q2⟩
    replace F₁ := expose5 F₁ e1 e2 e3 e4 e5
    have hmid : Int.fdiv ((lo : Int) + (hi' : Int)) 2 = (((lo + hi') / 2 : Nat) : Int) := by rw [Int.fdiv_eq_ediv_of_nonneg _ (by omega)]; omega
    have hm2 : (((lo + hi') / 2 : Nat) : Int).toNat = (lo + hi') / 2 := Int.toNat_natCast _
    k_extra "MY steps"
    · rename Fr _ _ _ _ => F3
      have hj : (lo + hi') / 2 < ns.length := by omega
      have hg := getD_in hb hj
      have hwo : ((worth (ns.getD ((lo + hi') / 2) 0).toNat : Nat) : Int) = (ns.map wo).getD ((lo + hi') / 2) 0 := by
        rw [List.getD_eq_getElem?_getD, List.getD_eq_getElem?_getD, List.getElem?_map, List.getElem?_eq_getElem hj]; rfl
      have hlen : (ns.map wo).length = ns.length := List.length_map _
      rw [hmid, hm2]
      rw [hmid] at F3
      refine use_int (worth_c (p := p) (loose := loose) (mean := mean) (mg := mg) (mb := mb) (At.of (by assumption) F3 (by assumption) (by assumption) rfl rfl rfl rfl (by k_extra "MY room") (by k_extra "MY room")) (by omega) (by omega)) F3 News.nil ?_
      clear F3
      intro t9 h9 tk9 st9 F9 N9
      rw [hwo]
      k_extra "MY steps"
      · rename Fr _ _ _ _ => F3
        rename (ns.map wo).getD _ 0 < x => hc
        refine hTW (hi' - ((lo + hi') / 2 + 1)) _ _ _ _ (by omega) F3 News.nil ⟨rfl, (lo + hi') / 2 + 1, hi', _, _, rfl, rfl, rfl, rfl, rfl, rfl, by omega, b2, fun j hj => ?_, q2⟩
        have := sorted_le hs (i := j) (j := (lo + hi') / 2) (by omega) (by omega)
        exact decide_eq_true (by omega)
      · rename Fr _ _ _ _ => F3
        rename ¬ ((ns.map wo).getD _ 0 < x) => hc
        refine hTW ((lo + hi') / 2 - lo) _ _ _ _ (by omega) F3 News.nil ⟨rfl, lo, (lo + hi') / 2, _, _, rfl, rfl, rfl, rfl, rfl, rfl, by omega, by omega, q1, fun j h1 h2 => ?_⟩
        have := sorted_le hs (i := (lo + hi') / 2) (j := j) (by omega) (by omega)
        exact decide_eq_false (by omega)
    · refine cend_int (by assumption) ?_
      have hlh : lo = hi' := by omega
      subst hlh
      have hlen : (ns.map wo).length = ns.length := List.length_map _
      rw [countP_split (by omega) q1 (fun j h1 h2 => q2 j h1 (by omega))]
end
end
/-! part WuHigh -/
noncomputable section
theorem reset_WuHigh : True := by
  w_top off
  k_with_none
  (k_with "MY got" => (intro _ _ _ _ _ _; (try dsimp only); (try k_sweep)))
  (k_with "MY gotb" => (intro _ _ _ _ _; (try dsimp only); (try k_sweep)))
  (k_with "MY abs" => (refine abs_post ?_; intro _ _))
  (k_with "MY end" => ((fail_if_success (with_reducible show wpAny _ _ _ _ _ _)); (first | with_reducible refine TSeq.next (by assumption) _ ?_ | with_reducible refine TSeq.ret (by assumption) _ _ ?_ | with_reducible refine AbsQ.of (by assumption) _ _ ?_); (try dsimp only)))
  (k_with "execs cons" => (k_here; (try k_gentoks); (try k_made); (with_reducible refine seq_abs ?_); intro _ _; (try dsimp only)))
  (k_with "MY enter" => (
  intro _ _ _ _ _ _ _ _ _ _ _ _ _ _ _ _ _
  (try dsimp only)
  k_fold
  (try k_extra "MY abs")))
  (k_with "MY stop" => (
  (fail_if_success (with_reducible show Exists _));
  (fail_if_success (with_reducible show LCt.CompSrcT _ _ _ _ _ _ _ _ _ _ _ _ _ _ _));
  (fail_if_success (with_reducible show LCg.CompSrc _ _ _ _ _ _ _ _ _ _ _ _ _ _));
  (first | (with_reducible show Frag.In _ _ ∧ _) | (with_reducible show FnAt _ _ ∧ _) | (fail_if_success (with_reducible show And _ _)));
  (fail_if_success (with_reducible show wpAny _ _ (eval (Expr.ListComp _ _ _ _) _) _ _ _));
  (fail_if_success (with_reducible show wpAny _ _ (pyIter _) _ _ _));
  (fail_if_success (with_reducible show wpAny _ _ (exec (Stmt.Assign _ (Expr.ListComp _ _ _ _) _) _) _ _ _));
  (fail_if_success (with_reducible show wpAny _ _ (exec (Stmt.While _ _ _ _) _) _ _ _));
  (fail_if_success (with_reducible show wpAny _ _ (exec (Stmt.For _ _ _ _ _) _) _ _ _))))
  (k_with "MY one" => first
  | k_extra "MY end"
  | (k_unfold; (try dsimp only))
  | walk1
  | (dsimp only; walk1)
  | (dsimp only; k_unfold; (try dsimp only))
  | (leave1; walk_say "STEP leave1"; try dsimp only)
  | fail "no step")
  (k_with "MY steps" => w_strict (repeat' (k_extra "MY stop"; k_extra "MY one")))
  (k_with "MY at" => (exact At.of (by k_asm) (by k_asm) (by k_asm) (by k_asm) (by exact rfl) (by exact rfl) (by exact rfl) (by exact rfl) (by k_extra "MY room") (by k_extra "MY room")))
  (k_with "MY room" => first | decide | ((try dsimp only [Around.deeper]); first | with_reducible exact roomD (by assumption) (by decide) | with_reducible exact roomD2 (by assumption) (by decide) | with_reducible exact roomU (by assumption) (by decide) | with_reducible exact roomU2 (by assumption) (by decide) | omega))
  (k_with "MY stage" => (
  refine ⟨_, _, _, _, _, _, _, _, _, _, _, _, _, _, _, by k_is, ?_⟩))
  (k_with "MY steps2" => w_strict (repeat' (k_extra "MY stop"; (fail_if_success (with_reducible show wpAny _ _ (execs (Stmt.For _ _ _ _ _ :: _) _) _ _ _)); k_extra "MY one")))
  (k_with "MY sub" => first | exact sub_nil | exact sub_cons (by k_mem) (by k_extra "MY sub"))
  (k_with "MY off" => first | exact trivial | exact And.intro (by k_ne) (by k_extra "MY off"))
  trivial
theorem lay_high_1 : True := by
  (k_with "MY go" => w_strict (repeat' (
  (fail_if_success (with_reducible show Exists _));
  (first | (with_reducible show Frag.In _ _ ∧ _) | (fail_if_success (with_reducible show And _ _)));
  k_extra "MY one")))
  trivial
section
variable {prog : Program} {w : World} {p : Program} {loose : List Str} {mean : ExcName → Option Value} {mg mb : Str → Option Value}
theorem bisect_right_c {A : Around} {s : Shared} {x : Int} {t tb : Tok} (hat : At w p loose mean mg mb A 1 s.heap) (h0 : 66 ≤ x) (h1 : x ≤ 80) :
    CtrK prog w A s 86 [.bytes #[66, 67, 69, 73] tb, .int x t] [] (IntV (if x < 67 then 1 else if x < 69 then 2 else if x < 73 then 3 else 4)) := by
  refine enter_kw (dk := 0) (binds := [(Str.ofString "a", .bytes #[66, 67, 69, 73] tb), (Str.ofString "x", .int x t), (Str.ofString "lo", .int 0 264), (Str.ofString "hi", .none), (Str.ofString "key", .none)]) hat (by k_is) (by k_is) (kp_binds hat.kin (by intro S; kernel_rfl)) (locs rfl) rfl rfl rfl (by decide) ?_
  k_extra "MY enter"
  k_extra "MY go"
  all_goals
    refine cend_int (by assumption) ?_
    have m1 : Int.fdiv (0 + (((#[66, 67, 69, 73] : Array UInt8).size : Nat) : Int)) 2 = 2 := rfl
    have m2 : Int.fdiv (0 + 2) 2 = 1 := rfl
    have m3 : Int.fdiv (0 + 1) 2 = 0 := rfl
    have m4 : Int.fdiv (2 + 1 + (((#[66, 67, 69, 73] : Array UInt8).size : Nat) : Int)) 2 = 3 := rfl
    have i0 : ((([66, 67, 69, 73] : List UInt8).getD (0 : Int).toNat 0).toNat : Int) = 66 := rfl
    have i1 : ((([66, 67, 69, 73] : List UInt8).getD (1 : Int).toNat 0).toNat : Int) = 67 := rfl
    have i2 : ((([66, 67, 69, 73] : List UInt8).getD (2 : Int).toNat 0).toNat : Int) = 69 := rfl
    have i3 : ((([66, 67, 69, 73] : List UInt8).getD (3 : Int).toNat 0).toNat : Int) = 73 := rfl
    simp only [m1, m2, m3, m4, i0, i1, i2, i3] at *
    (repeat' split) <;> omega
/-- the highest binary place of a number -/
def high (n : Nat) : Nat := 2 ^ Nat.log2 n
def firstLetter (n : Nat) : Nat := ((wordB n).toList.getD 0 0).toNat
theorem firstLetter_step {n : Nat} (h : 16 ≤ n) : firstLetter n = firstLetter (n / 16) := by
  unfold firstLetter
  have h1 : 0 < (wordB (n / 16)).size := by rw [wordB_step (by omega)]; simp
  rw [wordB_step (by omega), Array.toList_append, List.getD_eq_getElem?_getD, List.getD_eq_getElem?_getD, List.getElem?_append_left (by simpa using h1)]
theorem firstLetter_small {n : Nat} (h0 : n ≠ 0) (h : n < 16) : firstLetter n = 65 + n ∧ (wordB n).size = 1 := by
  have e : wordB n = #[UInt8.ofNat (65 + n)] := by
    rw [wordB_step h0, show n / 16 = 0 by omega, show n % 16 = n by omega]
    unfold wordB; rw [digs_zero]; rfl
  unfold firstLetter
  rw [e]
  refine ⟨?_, rfl⟩
  show (UInt8.ofNat (65 + n)).toNat = 65 + n
  rw [UInt8.toNat_ofNat']
  omega
theorem wordB_head : ∀ (n : Nat), n ≠ 0 → 66 ≤ firstLetter n ∧ firstLetter n ≤ 80 := by
  intro n
  induction n using Nat.strongRecOn with
  | ind n ih =>
    intro h
    by_cases h16 : n < 16
    · have := (firstLetter_small h h16).1; omega
    · rw [firstLetter_step (by omega)]
      exact ih (n / 16) (by omega) (by omega)
theorem log2_16 {n : Nat} (h : 16 ≤ n) : Nat.log2 n = Nat.log2 (n / 16) + 4 := by
  have e : n / 16 = n / 2 / 2 / 2 / 2 := by omega
  rw [e, Nat.log2_def, if_pos (by omega), Nat.log2_def (n / 2), if_pos (by omega), Nat.log2_def (n / 2 / 2), if_pos (by omega), Nat.log2_def (n / 2 / 2 / 2), if_pos (by omega)]
theorem high_int (n : Nat) (h : n ≠ 0) : 4 * ((wordB n).size : Int) - 5 + (if (firstLetter n : Int) < 67 then 1 else if (firstLetter n : Int) < 69 then 2 else if (firstLetter n : Int) < 73 then 3 else 4) = (Nat.log2 n : Int) := by
  induction n using Nat.strongRecOn with
  | ind n ih =>
    by_cases h16 : n < 16
    · obtain ⟨e1, e2⟩ := firstLetter_small h h16
      rw [e1, e2]
      have : ∀ n : Fin 16, n.val ≠ 0 → (4 * ((1 : Nat) : Int) - 5 + (if ((65 + n.val : Nat) : Int) < 67 then 1 else if ((65 + n.val : Nat) : Int) < 69 then 2 else if ((65 + n.val : Nat) : Int) < 73 then 3 else 4) : Int) = (Nat.log2 n.val : Int) := by decide +kernel
      exact this ⟨n, h16⟩ h
    · have e1 := firstLetter_step (n := n) (by omega)
      have e2 := log2_16 (n := n) (by omega)
      have e3 : (wordB n).size = (wordB (n / 16)).size + 1 := by rw [wordB_step h]; simp
      have := ih (n / 16) (by omega) (by omega)
      rw [e1, e2, e3]
      omega
theorem use_intK {prog : Program} {w : World} {A : Around} {s : Shared} {f : Addr} {args : List Value} {kw : List (Str × Value)} {R : Int} {Q E : Value → Shared → Prop} {h₀ : Heap} {L : Addr} {m : Str → Option Value} {news : List (Addr × Obj)} (C : CtrK prog w A s f args kw (IntV R)) (F : Fr h₀ L s.heap m) (N : News h₀ L s.heap news)
    (h : ∀ t h' tk', s.heap.StaysIn h' → Fr h₀ L h' m → News h₀ L h' news → Q (.int R t) { s with heap := h', toks := tk' }) : wpAny (model prog w) A (call (.ref f) args kw) Q E s := by
  refine wpAny_mono C (fun v s' q => ?_) (fun _ _ x => x.elim)
  obtain ⟨⟨h', tk', rfl, st⟩, t, rfl⟩ := q
  exact h t h' tk' st (F.keeps st) (N.grown st)
theorem int2ap_n {prog : Program} {w : World} {p : Program} {loose : List Str} {mean : ExcName → Option Value} {mg mb : Str → Option Value} {A : Around} {s : Shared} {n : Nat} {ta : Tok} (hat : At w p loose mean mg mb A 1 s.heap) (h1 : n < 2 ^ 60) :
    Ctr prog w A s 111 [.int (n : Int) ta] (BytesV (wordB n)) := by
  have := int2ap_c (prog := prog) (n := (n : Int)) (ta := ta) hat (by omega) (by omega)
  rwa [Int.toNat_natCast] at this
theorem lay_high_2 : True := by
  (k_with "call ref" => (k_here; (with_reducible show wpAny _ _ (call (Value.ref 111) _) _ _ _); (refine' use_bytes (int2ap_n (by k_extra "MY at") (by omega)) (by k_asm) (by k_asm) ?_); k_extra "MY got"))
  trivial
theorem wordB_pos {n : Nat} (h : n ≠ 0) : (0 : Int) < (((wordB n).size : Nat) : Int) := by
  rw [wordB_step h]; simp
theorem highest_c {A : Around} {s : Shared} {n : Nat} {t : Tok} (hat : At w p loose mean mg mb A 2 s.heap) (h0 : n ≠ 0) (h1 : n < 2 ^ 40) :
    Ctr prog w A s 149 [.int (n : Int) t] (IntV ((high n : Nat) : Int)) := by
  refine enter_pure (dk := 1) (binds := [(Str.ofString "number", .int (n : Int) t)]) hat (by k_is) (by k_is) (BindsTo.of_eq rfl) (locs rfl) rfl rfl rfl (by decide) ?_
  k_extra "MY enter"
  k_extra "MY steps"
  have hsz := wordB_size (k := 16) (n := n) (by omega)
  refine len_bytes (by omega) ?_
  k_extra "MY steps"
  rename Fr _ _ _ _ => F1
  rename News _ _ _ _ => N1
  refine use_int (getitem_c (a := (wordB n).toList) (p := p) (loose := loose) (mean := mean) (mg := mg) (mb := mb) (At.of (by assumption) F1 (by assumption) (by assumption) rfl rfl rfl rfl (by k_extra "MY room") (by k_extra "MY room")) (by omega) (wordB_pos (by assumption)) (by show (wordB n).size ≤ 1000; omega)) F1 N1 ?_
  clear F1 N1
  intro t9 h9 tk9 st9 F9 N9
  have hfl := wordB_head n h0
  k_extra "MY steps"
  rename Fr _ _ _ _ => F1
  rename News _ _ _ _ => N1
  change wpAny _ _ (call (Value.ref 86) [Value.bytes #[66, 67, 69, 73] _, Value.int (firstLetter n : Int) t9]) _ _ _
  refine use_intK (bisect_right_c (p := p) (loose := loose) (mean := mean) (mg := mg) (mb := mb) (At.of (by assumption) F1 (by assumption) (by assumption) rfl rfl rfl rfl (by k_extra "MY room") (by k_extra "MY room")) (by omega) (by omega)) F1 N1 ?_
  clear F1 N1
  intro t8 h8 tk8 st8 F8 N8
  have hi := high_int n h0
  have hlog : Nat.log2 n < 40 := (Nat.log2_lt h0).mpr h1
  generalize (if (firstLetter n : Int) < 67 then (1 : Int) else if (firstLetter n : Int) < 69 then 2 else if (firstLetter n : Int) < 73 then 3 else 4) = z at hi ⊢
  k_extra "MY steps"
  rename Fr _ _ _ _ => F1
  rename News _ _ _ _ => N1
  refine use_int (lshift_c (p := p) (loose := loose) (mean := mean) (mg := mg) (mb := mb) (At.of (by assumption) F1 (by assumption) (by assumption) rfl rfl rfl rfl (by k_extra "MY room") (by k_extra "MY room")) (by omega) (by omega) (by omega) (by omega)) F1 N1 ?_
  clear F1 N1
  intro t7 h7 tk7 st7 F7 N7
  k_extra "MY steps"
  refine cend_int (by assumption) ?_
  rw [hi, Int.toNat_natCast]
  unfold high
  simp
end
end
/-! part WuReply -/
noncomputable section
theorem reset_WuReply : True := by
  w_top off
  k_with_none
  (k_with "MY got" => (intro _ _ _ _ _ _; (try dsimp only); (try k_sweep)))
  (k_with "MY gotb" => (intro _ _ _ _ _; (try dsimp only); (try k_sweep)))
  (k_with "MY abs" => (refine abs_post ?_; intro _ _))
  (k_with "MY end" => ((fail_if_success (with_reducible show wpAny _ _ _ _ _ _)); (first | with_reducible refine TSeq.next (by assumption) _ ?_ | with_reducible refine TSeq.ret (by assumption) _ _ ?_ | with_reducible refine AbsQ.of (by assumption) _ _ ?_); (try dsimp only)))
  (k_with "execs cons" => (k_here; (try k_gentoks); (try k_made); (with_reducible refine seq_abs ?_); intro _ _; (try dsimp only)))
  (k_with "MY enter" => (
  intro _ _ _ _ _ _ _ _ _ _ _ _ _ _ _ _ _
  (try dsimp only)
  k_fold
  (try k_extra "MY abs")))
  (k_with "MY stop" => (
  (fail_if_success (with_reducible show Exists _));
  (fail_if_success (with_reducible show LCt.CompSrcT _ _ _ _ _ _ _ _ _ _ _ _ _ _ _));
  (fail_if_success (with_reducible show LCg.CompSrc _ _ _ _ _ _ _ _ _ _ _ _ _ _));
  (first | (with_reducible show Frag.In _ _ ∧ _) | (with_reducible show FnAt _ _ ∧ _) | (fail_if_success (with_reducible show And _ _)));
  (fail_if_success (with_reducible show wpAny _ _ (eval (Expr.ListComp _ _ _ _) _) _ _ _));
  (fail_if_success (with_reducible show wpAny _ _ (pyIter _) _ _ _));
  (fail_if_success (with_reducible show wpAny _ _ (exec (Stmt.Assign _ (Expr.ListComp _ _ _ _) _) _) _ _ _));
  (fail_if_success (with_reducible show wpAny _ _ (exec (Stmt.While _ _ _ _) _) _ _ _));
  (fail_if_success (with_reducible show wpAny _ _ (exec (Stmt.For _ _ _ _ _) _) _ _ _))))
  (k_with "MY one" => first
  | k_extra "MY end"
  | (k_unfold; (try dsimp only))
  | walk1
  | (dsimp only; walk1)
  | (dsimp only; k_unfold; (try dsimp only))
  | (leave1; walk_say "STEP leave1"; try dsimp only)
  | fail "no step")
  (k_with "MY steps" => w_strict (repeat' (k_extra "MY stop"; k_extra "MY one")))
  (k_with "MY at" => (exact At.of (by k_asm) (by k_asm) (by k_asm) (by k_asm) (by exact rfl) (by exact rfl) (by exact rfl) (by exact rfl) (by k_extra "MY room") (by k_extra "MY room")))
  (k_with "MY room" => first | decide | ((try dsimp only [Around.deeper]); first | with_reducible exact roomD (by assumption) (by decide) | with_reducible exact roomD2 (by assumption) (by decide) | with_reducible exact roomU (by assumption) (by decide) | with_reducible exact roomU2 (by assumption) (by decide) | omega))
  (k_with "MY stage" => (
  refine ⟨_, _, _, _, _, _, _, _, _, _, _, _, _, _, _, by k_is, ?_⟩))
  (k_with "MY steps2" => w_strict (repeat' (k_extra "MY stop"; (fail_if_success (with_reducible show wpAny _ _ (execs (Stmt.For _ _ _ _ _ :: _) _) _ _ _)); k_extra "MY one")))
  (k_with "MY sub" => first | exact sub_nil | exact sub_cons (by k_mem) (by k_extra "MY sub"))
  (k_with "MY off" => first | exact trivial | exact And.intro (by k_ne) (by k_extra "MY off"))
  trivial
section
variable {prog : Program} {w : World} {p : Program} {loose : List Str} {mean : ExcName → Option Value} {mg mb : Str → Option Value}
theorem enter_cells {A : Around} {dk : Nat} {s : Shared} {P : Heap → Value → Heap → Prop} {name qual : Str} {params : Arguments} {body : List Stmt} {scope : Scope} {dV kV doc pm cdv ct oc : Value} {an od : Option Addr} {osl : Array (Option Value)} {f : Addr} {args : List Value} {binds : List (Str × Value)}
    (hat : At w p loose mean mg mb A (dk + 1) s.heap)
    (ho : (Mine.hd.heap_39 w.params).lookup f = some ⟨oc, od, .func (fnOf name qual params body scope dV kV doc pm an cdv ct), osl⟩) (hcd : codeIn (Mine.hd.heap_39 w.params) cdv qual = true)
    (hbind : BindsTo s (fnOf name qual params body scope dV kV doc pm an cdv ct) ⟨args, []⟩ binds) (hkind : (binds.all fun y => scope.names.lookup y.1 == some .local || scope.names.lookup y.1 == some .cell) = true)
    (hnd : ((cellsFrom 0 scope.names []).map (·.1)).Nodup)
    (hco : scope.isCoroutine = false) (hgen : scope.isGenerator = false) (hk : scope.kind = .function)
    (h : ∀ g L' h₁ tk cells env outer base dp un gd, s.heap.StaysIn g → Fr g L' h₁ (bindL (envOfC qual scope L' f cdv).kindOf binds fun _ => none) → News g L' h₁ cells →
      CellsAre (bindC (envOfC qual scope L' f cdv).kindOf binds fun _ => none) (cellsFrom (L' + 1) scope.names []) cells → Below { handled := none, depth := dp, frames := some (env :: outer), guards := gd, units := un : Around } base (env :: outer) g → (Mine.hd.heap_39 w.params).In g → Top p loose mean mg mb g →
      dp + dk + 1 < recursionLimit → un + 8 * dk + 108 < cLine →
      wpAny (model prog w) (Around.deeper { handled := none, depth := dp, frames := some (env :: outer), guards := gd, units := un : Around } (envOfC qual scope L' f cdv)) (execs body (envOfC qual scope L' f cdv))
        (fun fl s' => CEnd g s P (match fl with | .ret v => v | _ => .none) s')
        (fun _ _ => False)
        { s with heap := h₁, toks := tk }) :
    Ctr prog w A s f args P := by
  obtain ⟨hh, hd, hu, A₀, base, env, outer, h₀, L, m, B, F, X, T, hA, hf, hke⟩ := hat
  obtain ⟨ah, ad, af, ag, au⟩ := A
  simp only at hh hd hu hA
  subst hh hA
  refine wpAny_call ?_
  obtain ⟨FG, BG, st, lv⟩ := groundX (A := { handled := none, depth := ad, frames := some (env :: outer), guards := ag, units := au }) (R := fun r s' => match r with | .ok (.ret v) => Grown s s' ∧ P s.heap v s'.heap | .ok _ => False | .error _ => False) B F (News.nil (h₀ := h₀) (h := s.heap) (L := L)) rfl hf hke
  have X' := X.keeps F.keep
  have T' : Top p loose mean mg mb s.heap := T.keeps F.keep
  refine codeAny_call_function (by show ad < _; omega) (X' _ _ ho) rfl hco hgen rfl (codeRec_of X' hcd) (hbind _ _ _ _ ?_)
  refine wpAny_newFunctionEnv_cells hk (kindsX hkind _) fun env' he s' x => ?_
  subst he
  refine ⟨T'.nolimit.keeps x.toInCall.keep, codeAny_func ?_⟩
  obtain ⟨h₁, tk, rfl, _⟩ := x.done
  have hk₁ := x.toInCall.keep
  obtain ⟨cells, NC, Y⟩ := Cl.news (h₀ := s.heap) (Nat.le_refl _) fun n c hm => ⟨x.cell n c (lookup_of_mem_nodup (cellsFrom_names scope.names 0 (s.heap.objs.size + 1) [] [] rfl ▸ hnd) hm), x.above n c hm⟩
  refine wpAny_mono (h s.heap s.heap.objs.size h₁ tk cells env outer base ad au ag (fun _ _ e => e) ⟨x.toInCall.ns, fun b o e => hk₁ b o e, Nat.le_refl _⟩ NC Y BG X' T' (by omega) (by omega)) (fun fl s' q => ?_) (fun _ _ x => x.elim)
  obtain ⟨L'', m'', h', tk', rfl, F'', q⟩ := q
  exact lv _ _ (leaveK_ F'' News.nil fun _ _ => ⟨⟨h', tk', rfl, fun b o e => F''.keep b o e⟩, q⟩)
theorem crestT {A : Around} {h₀ : Heap} {L : Addr} {m : Str → Option Value} {env : Env} {ct elt : PySem.Expr} {x : Str} {scope : Scope} {cl : List (Str × Addr)} {s₂ : Shared} {S : List (Addr × Obj) → Prop} {Fin : List Value → List (Addr × Obj) → Prop} {vs : List Value} {news : List (Addr × Obj)} (keep : Value → Bool)
    (hS : S news)
    (turn : ∀ v C m₂ h tk, v ∈ vs → h.Ns C m₂ → m₂ x = some v → Fr h₀ L h m → News h₀ L h news →
      wpAny (model prog w) A (isTrue ct (compEnvC scope cl C env) (eval ct (compEnvC scope cl C env))) (fun ok s' => Grown { s₂ with heap := h, toks := tk } s' ∧ ok = keep v) (fun _ _ => False) { s₂ with heap := h, toks := tk })
    (el : ∀ v C m₂ h tk, v ∈ vs → h.Ns C m₂ → m₂ x = some v → Fr h₀ L h m → News h₀ L h news →
      wpAny (model prog w) A (eval elt (compEnvC scope cl C env)) (fun y s' => Grown { s₂ with heap := h, toks := tk } s' ∧ y = v) (fun _ _ => False) { s₂ with heap := h, toks := tk })
    (fin : Fin (vs.filter keep) news) :
    LCt.CompRestT prog w A h₀ L m env ct elt x scope cl s₂ S (fun i v => vs[i]? = some v) Fin vs.length 0 [] news := by
  suffices H : ∀ k i ys, i + k = vs.length → ys = (vs.take i).filter keep → LCt.CompRestT prog w A h₀ L m env ct elt x scope cl s₂ S (fun i v => vs[i]? = some v) Fin k i ys news from
    H vs.length 0 [] (by omega) (by simp)
  intro k
  induction k with
  | zero =>
    intro i ys hi hy
    have : i = vs.length := by omega
    subst this
    rw [List.take_length] at hy
    subst hy
    exact LCt.CompRestT.zero fin
  | succ k ih =>
    intro i ys hi hy
    refine LCt.CompRestT.succ fun v I oI C oC D m₂ h tk E' hP hC hx F N off ne => ?_
    have N' : News h₀ L h news := fun p hp => N p (.tail _ (.tail _ (.tail _ hp)))
    have hCn := hC.ns (N.get (.tail _ (.head _)))
    have hstep : (vs.take (i + 1)).filter keep = (vs.take i).filter keep ++ (if keep v then [v] else []) := by
      rw [List.take_add_one, hP, List.filter_append]
      cases hk : keep v <;> simp [hk]
    refine wpAny_mono (turn v C m₂ h tk (List.mem_of_getElem? hP) hCn hx F N') (fun ok s' q => ?_) (fun _ _ q => q.elim)
    obtain ⟨⟨h', tk', rfl, st⟩, rfl⟩ := q
    cases hk : keep v with
    | true =>
      simp only [if_true]
      refine wpAny_mono (el v C m₂ h' tk' (List.mem_of_getElem? hP) (hCn.keeps st) hx (F.keeps st) (N'.grown st)) (fun y s'' q => ?_) (fun _ _ q => q.elim)
      obtain ⟨⟨h'', tk'', rfl, st2⟩, rfl⟩ := q
      refine ⟨h'', tk'', news, rfl, (F.keeps st).keeps st2, (N.grown st).grown st2, off, hS, ih (i + 1) _ (by omega) ?_⟩
      rw [hstep, hk, if_pos rfl, hy]
    | false =>
      simp only [Bool.false_eq_true, if_false]
      refine ⟨h', tk', news, rfl, F.keeps st, N.grown st, off, hS, ih (i + 1) _ (by omega) ?_⟩
      rw [hstep, hk, if_neg Bool.false_ne_true, List.append_nil, hy]
theorem crestTA {A : Around} {h₀ : Heap} {L : Addr} {m : Str → Option Value} {env : Env} {ct elt : PySem.Expr} {x : Str} {scope : Scope} {cl : List (Str × Addr)} {s₂ : Shared} {S : List (Addr × Obj) → Prop} {Fin : List Value → List (Addr × Obj) → Prop} {vs : List Value} {news : List (Addr × Obj)} (keep : Value → Bool)
    (hS : S news)
    (turn : ∀ v C m₂ h tk, v ∈ vs → h.Ns C m₂ → m₂ x = some v → Fr h₀ L h m → News h₀ L h news →
      wpAny (model prog w) A (isTrue ct (compEnvC scope cl C env) (eval ct (compEnvC scope cl C env))) (fun ok s' => Grown { s₂ with heap := h, toks := tk } s' ∧ ok = keep v) (fun _ _ => False) { s₂ with heap := h, toks := tk })
    (el : ∀ v C m₂ h tk, v ∈ vs → h.Ns C m₂ → m₂ x = some v → Fr h₀ L h m → News h₀ L h news →
      wpAny (model prog w) A (eval elt (compEnvC scope cl C env)) (fun y s' => Grown { s₂ with heap := h, toks := tk } s' ∧ y = v) (fun _ _ => False) { s₂ with heap := h, toks := tk })
    (fin : Fin (vs.filter keep) news) :
    LCt.CompRestT prog w A h₀ L m env ct elt x scope cl s₂ S (fun i v => vs.toArray[i]? = some v) Fin vs.toArray.size 0 [] news := by
  have := crestT keep hS turn el fin
  simpa using this
theorem worth_n {A : Around} {s : Shared} {n : Nat} {ta : Tok} (hat : At w p loose mean mg mb A 3 s.heap) (h1 : n < 2 ^ 40) : Ctr prog w A s 123 [.int (n : Int) ta] (IntV ((worth n : Nat) : Int)) := by
  have := worth_c (prog := prog) (n := (n : Int)) (ta := ta) hat (by omega) (by omega)
  rwa [Int.toNat_natCast] at this
theorem ints_cons {ws : List Value} {a : Int} {r : List Int} (h : IntsAre ws (a :: r)) : ∃ t us, ws = .int a t :: us ∧ IntsAre us r := by
  cases h with
  | cons _ t hu => exact ⟨t, _, rfl, hu⟩
theorem stays_trans {a b c : Heap} (h1 : a.StaysIn b) (h2 : b.StaysIn c) : a.StaysIn c := fun x o e => h2 x o (h1 x o e)
theorem lay_reply_1 : True := by
  (k_with "MY stays" => first | (exact fun _ _ e => e) | assumption | exact stays_trans (by assumption) (by assumption) | exact stays_trans (by assumption) (stays_trans (by assumption) (by assumption)))
  trivial
theorem zs_mem {vs : List Value} {l : List Nat} (hi : IntsAre vs (zs l)) {v : Value} (hv : v ∈ vs) : ∃ n t, n ∈ l ∧ v = .int (n : Int) t := by
  obtain ⟨i, hi', rfl⟩ := List.getElem_of_mem hv
  obtain ⟨n, t, h1, h2⟩ := zs_get hi (List.getElem?_eq_getElem hi')
  exact ⟨n, t, List.mem_of_getElem? h1, h2⟩
def keepV (v : Nat) : Value → Bool
  | .int i _ => worth i.toNat &&& high v != 0
  | _ => false
theorem zs_filter {v : Nat} : ∀ {vs : List Value} {l : List Nat}, IntsAre vs (zs l) → IntsAre (vs.filter (keepV v)) (zs (l.filter fun n => worth n &&& high v != 0))
  | _, [], h => by cases h; exact .nil
  | _, n :: l, h => by
    obtain ⟨t, us, rfl, hu⟩ := ints_cons h
    have ih := zs_filter (v := v) hu
    have e : keepV v (.int (n : Int) t) = (worth n &&& high v != 0) := by show (worth (n : Int).toNat &&& high v != 0) = _; rw [Int.toNat_natCast]
    cases hk : (worth n &&& high v != 0) with
    | true => rw [List.filter_cons_of_pos (by rw [e, hk]), List.filter_cons_of_pos (by rw [hk])]; exact .cons _ _ ih
    | false => rw [List.filter_cons_of_neg (by rw [e, hk]; exact Bool.false_ne_true), List.filter_cons_of_neg (by rw [hk]; exact Bool.false_ne_true)]; exact ih
theorem cend_list {g h' : Heap} {s : Shared} {L'' D : Addr} {m'' : Str → Option Value} {R : List Int} {ws : List Value} {k tk' : Nat} {news : List (Addr × Obj)} (st : s.heap.StaysIn g) (F : Fr g L'' h' m'') (N : News g L'' h' news) (hm : (D, PySem.W.listOf (List.toArray ws) k) ∈ news) (hi : IntsAre ws R) : CEnd g s (ListV R) (.ref D) { s with heap := h', toks := tk' } := by
  refine ⟨L'', m'', h', tk', rfl, F, D, ws, k, rfl, ?_, (N _ hm).1, hi⟩
  cases q : s.heap.get? D with
  | none => rfl
  | some o => have := (N _ hm).2.2; rw [st _ _ q] at this; cases this
/-- the hand's turn -/
def replyOf (v : Nat) (able : List Nat) : List Nat :=
  match able with
  | [] => []
  | a :: _ =>
    if worth a ^^^ v = 0 then [a]
    else if worth ((worth a ^^^ v) / 2) = worth a ^^^ v then [a, (worth a ^^^ v) / 2]
    else [a, high (worth a ^^^ v) / 2, ((worth a ^^^ v) - high (worth a ^^^ v)) / 2]
def reply (row : List Nat) (v : Nat) : List Nat := replyOf v (row.filter fun n => worth n &&& high v != 0)
theorem lay_reply_2 : True := by
  (k_with "call ref" => (k_here; (with_reducible show wpAny _ _ (call (Value.ref 149) _) _ _ _); (refine' use_int (highest_c (by k_extra "MY at") (by first | assumption | omega) (by omega)) (by k_asm) (by k_asm) ?_); k_extra "MY got"))
  (k_with "call ref" => (k_here; (with_reducible show wpAny _ _ (call (Value.ref 123) _) _ _ _); (refine' use_int (worth_n (by k_extra "MY at") (by omega)) (by k_asm) (by k_asm) ?_); k_extra "MY got"))
  (k_with "call ref" => (k_here; (with_reducible show wpAny _ _ (call (Value.ref 28) _) _ _ _); (refine' use_int (and_c (by k_extra "MY at")) (by k_asm) (by k_asm) ?_); k_extra "MY got"))
  trivial
theorem xor_n {A : Around} {s : Shared} {a b : Nat} {ta tb : Tok} (hat : At w p loose mean mg mb A 1 s.heap) : Ctr prog w A s 49 [.int (a : Int) ta, .int (b : Int) tb] (IntV ((a ^^^ b : Nat) : Int)) := by
  have := xor_c (prog := prog) (a := (a : Int)) (b := (b : Int)) (ta := ta) (tb := tb) hat
  rwa [bitXor_nat] at this
theorem floordiv_n {A : Around} {s : Shared} {a : Nat} {ta tb : Tok} (hat : At w p loose mean mg mb A 1 s.heap) (h : a < 2 ^ 60) : Ctr prog w A s 35 [.int (a : Int) ta, .int 2 tb] (IntV ((a / 2 : Nat) : Int)) := by
  have := floordiv_c (prog := prog) (a := (a : Int)) (b := 2) (ta := ta) (tb := tb) hat (by omega) (by omega) (by omega) (by omega)
  rwa [show ((a : Int) / 2) = ((a / 2 : Nat) : Int) by omega] at this
theorem worth_le (n : Nat) : worth n ≤ 2 * n + 1 := by unfold worth; split <;> omega
theorem high_le (n : Nat) : n ≠ 0 → high n ≤ n := fun h => Nat.log2_self_le h
theorem lay_reply_5 : True := by
  (k_with "call ref" => (k_here; (with_reducible show wpAny _ _ (call (Value.ref 35) _) _ _ _); (refine' use_int (floordiv_c (by k_extra "MY at") (by omega) (by omega) (by omega) (by omega)) (by k_asm) (by k_asm) ?_); k_extra "MY got"))
  (k_with "call ref" => (k_here; (with_reducible show wpAny _ _ (call (Value.ref 35) _) _ _ _); (refine' use_int (floordiv_n (by k_extra "MY at") (by omega)) (by k_asm) (by k_asm) ?_); k_extra "MY got"))
  (k_with "call ref" => (k_here; (with_reducible show wpAny _ _ (call (Value.ref 49) _) _ _ _); (refine' use_int (xor_n (by k_extra "MY at")) (by k_asm) (by k_asm) ?_); k_extra "MY got"))
  trivial
theorem half_sub {X H : Nat} (h : H ≤ X) : (((X - H) / 2 : Nat) : Int) = ((X : Int) - (H : Int)) / 2 := by omega
theorem reply_c {A : Around} {s : Shared} {l : Addr} {vs : List Value} {row : List Nat} {v : Nat} {t : Tok} (hat : At w p loose mean mg mb A 4 s.heap) (hl : s.heap.IsList l vs.toArray) (hi : IntsAre vs (zs row)) (hb : ∀ n ∈ row, n < 2 ^ 30) (hlen : row.length < 1000) (hv0 : v ≠ 0) (hv : v < 2 ^ 40) :
    Ctr prog w A s 154 [.ref l, .int (v : Int) t] (ListV (zs (reply row v))) := by
  refine enter_cells (dk := 3) (binds := [(Str.ofString "row", .ref l), (Str.ofString "value", .int (v : Int) t)]) hat (by k_is) (by k_is) (BindsTo.of_eq rfl) rfl (by decide +kernel) rfl rfl rfl ?_
  walk_at "MY cells"
  k_extra "MY steps"
  rename Fr _ _ _ _ => F1
  rename News _ _ _ _ => N1
  rename Heap.StaysIn s.heap _ => st
  have hlg := stays_list st hl
  refine LCt.Assign_ListComp_T (cl := [(Str.ofString "top", _)]) F1 rfl (by with_unfolding_all rfl) (by with_unfolding_all rfl) (by decide) rfl (by decide) rfl rfl rfl ?_ (by intro _; rfl)
  k_extra "MY steps"
  refine LCt.CompSrcT.base rfl F1 N1 hlg (by rw [sizeLine_eq, List.size_toArray]; have := hi.length; rw [zs_length] at this; omega) ?_
  intro g'
  refine crestTA (keepV v) (Or.inl hlg) ?_ ?_ ?_
  · clear F1 N1
    intro u C m₂ h tk hu hC hx F N
    obtain ⟨n, t, hn, rfl⟩ := zs_mem hi hu
    have hnb := hb n hn
    k_extra "MY steps"
    refine ⟨grown_refl (by k_extra "MY stays"), ?_⟩
    rw [bitAnd_nat]
    show ((((worth n &&& high v : Nat) : Int)) != 0) = (worth (n : Int).toNat &&& high v != 0)
    rw [Int.toNat_natCast]
    cases worth n &&& high v <;> rfl
  · clear F1 N1
    intro u C m₂ h tk hu hC hx F N
    k_extra "MY steps"
    exact ⟨⟨_, _, rfl, fun _ _ e => e⟩, rfl⟩
  · clear F1 N1
    have hfi := zs_filter (v := v) hi
    have hfm : ∀ n ∈ row.filter (fun n => worth n &&& high v != 0), n < 2 ^ 30 := fun n hn => hb n (List.mem_filter.mp hn).1
    generalize hfl : row.filter (fun n => worth n &&& high v != 0) = fl at hfi hfm
    generalize vs.filter (keepV v) = ws at hfi ⊢
    have hrep : reply row v = replyOf v fl := by rw [← hfl]; rfl
    clear hfl
    intro D h tk F N _
    cases fl with
    | nil =>
      cases hfi
      k_extra "MY steps"
      · refine cend_list st (by assumption) (by assumption) (.head _) ?_
        rw [hrep]; exact .nil
    | cons a as =>
      obtain ⟨t1, us, rfl, hus⟩ := ints_cons hfi
      have hab := hfm a (.head _)
      have hwa := worth_le a
      have hx : worth a ^^^ v < 2 ^ 40 := Nat.xor_lt_two_pow (by omega) hv
      have hhl := high_le (worth a ^^^ v)
      k_extra "MY steps"
      · rename decide (zs (a :: as) = []) = true => hq
        simp [zs] at hq
      · rename ((worth a ^^^ v : Nat) : Int) = 0 => h1
        refine cend_list st (by assumption) (by assumption) (.head _) ?_
        rw [hrep, replyOf, if_pos (by omega)]
        exact .cons _ _ .nil
      · rename ((worth a ^^^ v : Nat) : Int) ≠ 0 => h1
        rename ((worth ((worth a ^^^ v) / 2) : Nat) : Int) = _ => h2
        refine cend_list st (by assumption) (by assumption) (.head _) ?_
        rw [hrep, replyOf, if_neg (by omega), if_pos (by omega)]
        exact .cons _ _ (.cons _ _ .nil)
      · rename ((worth a ^^^ v : Nat) : Int) ≠ 0 => h1
        rename ((worth ((worth a ^^^ v) / 2) : Nat) : Int) ≠ _ => h2
        refine cend_list st (by assumption) (by assumption) (.head _) ?_
        rw [hrep, replyOf, if_neg (by omega), if_neg (by omega)]
        have h3 := hhl (by omega)
        have h4 : ((((worth a ^^^ v) - high (worth a ^^^ v)) / 2 : Nat) : Int) = (((worth a ^^^ v : Nat) : Int) - ((high (worth a ^^^ v) : Nat) : Int)) / 2 := half_sub h3
        show IntsAre _ [(a : Int), ((high (worth a ^^^ v) / 2 : Nat) : Int), ((((worth a ^^^ v) - high (worth a ^^^ v)) / 2 : Nat) : Int)]
        rw [h4]
        exact .cons _ _ (.cons _ _ (.cons _ _ .nil))
end
end
/-! part WuSetA -/
noncomputable section
/-! the places of a set's table rise -/
def Rise (xs : Array Nat) : Prop := xs.toList.Pairwise (· < ·)
theorem rise_lt {xs : Array Nat} (h : Rise xs) {i j : Nat} (hij : i < j) (hj : j < xs.size) : xs.getD i 0 < xs.getD j 0 := by
  have := List.pairwise_iff_getElem.mp h i j (by simpa using Nat.lt_trans hij hj) (by simpa using hj) hij
  simpa [Array.getD, hj, Nat.lt_trans hij hj] using this
theorem getD_dflt {xs : Array Nat} {i a b : Nat} (h : i < xs.size) : xs.getD i a = xs.getD i b := by simp [Array.getD, h]
theorem below_go {xs : Array Nat} (hr : Rise xs) (j : Nat) : ∀ fuel lo hi, hi - lo ≤ fuel → lo ≤ hi → hi ≤ xs.size → (∀ i, i < lo → xs.getD i 0 < j) → (∀ i, hi ≤ i → i < xs.size → j ≤ xs.getD i 0) →
    SetTable.below.go xs j fuel lo hi ≤ xs.size ∧ (∀ i, i < SetTable.below.go xs j fuel lo hi → xs.getD i 0 < j) ∧ (∀ i, SetTable.below.go xs j fuel lo hi ≤ i → i < xs.size → j ≤ xs.getD i 0) := by
  intro fuel
  induction fuel with
  | zero =>
    intro lo hi h1 h2 h3 h4 h5
    have : lo = hi := by omega
    subst this
    exact ⟨h3, h4, h5⟩
  | succ fuel ih =>
    intro lo hi h1 h2 h3 h4 h5
    rw [SetTable.below.go]
    split
    · rename_i hlt
      dsimp only
      have hm : (lo + hi) / 2 < xs.size := by omega
      rw [getD_dflt (b := 0) hm]
      by_cases hc : xs.getD ((lo + hi) / 2) 0 < j
      · rw [if_pos hc]
        refine ih ((lo + hi) / 2 + 1) hi (by omega) (by omega) h3 (fun i hi' => ?_) h5
        rcases Nat.lt_or_ge i ((lo + hi) / 2) with q | q
        · exact Nat.lt_trans (rise_lt hr q hm) hc
        · have : i = (lo + hi) / 2 := by omega
          rw [this]; exact hc
      · rw [if_neg hc]
        refine ih lo ((lo + hi) / 2) (by omega) (by omega) (by omega) h4 (fun i hi' hs => ?_)
        rcases Nat.lt_or_ge ((lo + hi) / 2) i with q | q
        · exact Nat.le_trans (Nat.le_of_not_lt hc) (Nat.le_of_lt (rise_lt hr q hs))
        · have : i = (lo + hi) / 2 := by omega
          rw [this]; exact Nat.le_of_not_lt hc
    · have : lo = hi := by omega
      subst this
      exact ⟨h3, h4, h5⟩
theorem below_spec {xs : Array Nat} (hr : Rise xs) (j : Nat) : SetTable.below xs j ≤ xs.size ∧ (∀ i, i < SetTable.below xs j → xs.getD i 0 < j) ∧ (∀ i, SetTable.below xs j ≤ i → i < xs.size → j ≤ xs.getD i 0) :=
  below_go hr j xs.size 0 xs.size (by omega) (by omega) (Nat.le_refl _) (fun i h => absurd h (Nat.not_lt_zero _)) (fun i h1 h2 => absurd h2 (by omega))
theorem getD_arr {xs : Array Nat} {i : Nat} (h : i < xs.size) : xs.getD i 0 = xs.toList[i]'(by simpa using h) := by simp [Array.getD, h]
theorem rise_insert {xs : Array Nat} (hr : Rise xs) {j : Nat} (hj : xs[SetTable.below xs j]? ≠ some j) : Rise (SetTable.insertAt xs (SetTable.below xs j) j) := by
  obtain ⟨h1, h2, h3⟩ := below_spec hr j
  generalize SetTable.below xs j = p at *
  unfold Rise
  rw [SetTable.toList_insertAt]
  have hd : ∀ y ∈ xs.toList.drop p, j < y := fun y hy => by
    obtain ⟨i, hi, e⟩ := List.getElem_of_mem hy
    rw [List.getElem_drop] at e
    have hs : p + i < xs.size := by simp at hi; omega
    have h4 := h3 (p + i) (by omega) hs
    rw [getD_arr hs, e] at h4
    rcases Nat.lt_or_ge j y with q | q
    · exact q
    · exfalso
      have hjy : y = j := by omega
      rcases Nat.eq_zero_or_pos i with z | z
      · subst z
        apply hj
        rw [← Array.getElem?_toList, List.getElem?_eq_getElem (by simpa using hs)]
        simp only [Nat.add_zero] at e
        rw [e, hjy]
      · have h5 := h3 p (Nat.le_refl _) (by omega)
        have h6 := rise_lt hr (i := p) (j := p + i) (by omega) hs
        rw [getD_arr hs, e] at h6
        omega
  rw [List.pairwise_append, List.pairwise_cons]
  refine ⟨List.Pairwise.sublist (List.take_sublist ..) hr, ⟨hd, List.Pairwise.sublist (List.drop_sublist ..) hr⟩, fun a ha b hb => ?_⟩
  have ha' : a < j := by
    obtain ⟨i, hi, e⟩ := List.getElem_of_mem ha
    rw [List.getElem_take] at e
    have hs : i < xs.size := by simp at hi; omega
    have h4 := h2 i (by simp at hi; omega)
    rw [getD_arr hs, e] at h4
    exact h4
  rcases List.mem_cons.mp hb with rfl | hb
  · exact ha'
  · exact Nat.lt_trans ha' (hd b hb)
/-! the probing meets every slot -/
noncomputable abbrev lp (mask : Nat) : Nat → Nat × Nat → Nat × Nat
  | 0, x => x
  | k + 1, x => lp mask k (SetTable.leap mask x.1 x.2)
noncomputable def f5 (mask : Nat) : Nat → Nat → Nat
  | 0, i => i
  | k + 1, i => f5 mask k ((i * 5 + 1) % (mask + 1))
theorem f5_add (mask : Nat) : ∀ a b i, f5 mask (a + b) i = f5 mask b (f5 mask a i)
  | 0, b, i => by rw [Nat.zero_add]; rfl
  | a + 1, b, i => by rw [Nat.succ_add]; exact f5_add mask a b _
def f5All (mask : Nat) : Bool := (List.range (mask + 1)).all (fun j => (List.range (mask + 1)).any fun k => f5 mask k 0 == j) && f5 mask (mask + 1) 0 == 0
theorem f5_7 : f5All 7 = true := by decide +kernel
theorem f5_31 : f5All 31 = true := by decide +kernel
theorem f5_127 : f5All 127 = true := by decide +kernel
def Masks (mask : Nat) : Prop := mask = 7 ∨ mask = 31 ∨ mask = 127
theorem f5_cover {mask : Nat} (hm : Masks mask) {i j : Nat} (hi : i ≤ mask) (hj : j ≤ mask) : ∃ k, k ≤ mask ∧ f5 mask k i = j := by
  have h : f5All mask = true := by rcases hm with rfl | rfl | rfl; exact f5_7; exact f5_31; exact f5_127
  unfold f5All at h
  rw [Bool.and_eq_true, List.all_eq_true, beq_iff_eq] at h
  obtain ⟨h1, h2⟩ := h
  have g : ∀ x, x ≤ mask → ∃ k, k ≤ mask ∧ f5 mask k 0 = x := fun x hx => by
    have := h1 x (List.mem_range.mpr (by omega))
    obtain ⟨k, hk, e⟩ := List.any_eq_true.mp this
    exact ⟨k, by have := List.mem_range.mp hk; omega, by simpa using e⟩
  obtain ⟨a, ha, ea⟩ := g i hi
  obtain ⟨b, hb, eb⟩ := g j hj
  rcases Nat.le_total a b with q | q
  · refine ⟨b - a, by omega, ?_⟩
    rw [← ea, ← f5_add, Nat.add_sub_cancel' q]; exact eb
  · rcases Nat.eq_or_lt_of_le q with q | q
    · exact ⟨0, Nat.zero_le _, by rw [← eb, q, ea]; rfl⟩
    refine ⟨mask + 1 - a + b, by omega, ?_⟩
    rw [← ea, ← f5_add, ← Nat.add_assoc, Nat.add_sub_cancel' (by omega), f5_add, h2]; exact eb
theorem lp_snd (mask : Nat) : ∀ k x, (lp mask k x).2 = x.2 / 32 ^ k
  | 0, x => by simp [lp]
  | k + 1, x => by
    show (lp mask k (SetTable.leap mask x.1 x.2)).2 = _
    rw [lp_snd mask k]
    show x.2 / 32 / 32 ^ k = _
    rw [Nat.div_div_eq_div_mul, Nat.pow_succ, Nat.mul_comm 32]
theorem lp_add (mask : Nat) : ∀ a b x, lp mask (a + b) x = lp mask b (lp mask a x)
  | 0, b, x => by rw [Nat.zero_add]
  | a + 1, b, x => by rw [Nat.succ_add]; exact lp_add mask a b _
theorem lp_zero (mask : Nat) : ∀ k i, (lp mask k (i, 0)).1 = f5 mask k i
  | 0, i => rfl
  | k + 1, i => by
    show (lp mask k (SetTable.leap mask i 0)).1 = _
    have : SetTable.leap mask i 0 = ((i * 5 + 1) % (mask + 1), 0) := by simp [SetTable.leap]
    rw [this, lp_zero mask k]; rfl
theorem lp_le (mask : Nat) : ∀ k x, x.1 ≤ mask → (lp mask k x).1 ≤ mask
  | 0, x, h => h
  | k + 1, x, h => lp_le mask k _ (by show (x.1 * 5 + 1 + x.2 / 32) % (mask + 1) ≤ mask; have := Nat.mod_lt (x.1 * 5 + 1 + x.2 / 32) (show 0 < mask + 1 by omega); omega)
theorem lp_cover {mask : Nat} (hm : Masks mask) {i p j : Nat} (hi : i ≤ mask) (hp : p < 2 ^ 64) (hj : j ≤ mask) : ∃ k, k ≤ mask + 13 ∧ (lp mask k (i, p)).1 = j := by
  have h1 := lp_le mask 13 (i, p) hi
  have h2 := lp_snd mask 13 (i, p)
  have h3 : p / 32 ^ 13 = 0 := Nat.div_eq_of_lt (by omega)
  rw [show (i, p).2 = p from rfl, h3] at h2
  obtain ⟨k, hk, e⟩ := f5_cover hm h1 hj
  refine ⟨13 + k, by omega, ?_⟩
  rw [lp_add, ← e, ← lp_zero, ← h2]
theorem bits_lt (h : Int) : SetTable.bits h < 2 ^ 64 := by
  unfold SetTable.bits
  have := Int.emod_lt_of_pos h (show (0 : Int) < 2 ^ 64 by decide)
  have := Int.emod_nonneg h (show (2 ^ 64 : Int) ≠ 0 by decide)
  omega
/-! a clean layout -/
theorem free_some {mask : Nat} {owner : Array (Option Nat)} {j₀ : Nat} (h0 : owner.getD j₀ (some 0) = none) : ∀ k fuel i p, k < fuel → i ≤ mask → (lp mask k (i, p)).1 = j₀ →
    ∃ j, SetTable.layClean.free mask owner fuel i p = some j ∧ owner.getD j (some 0) = none
  | k, 0, i, p, hk, hi, e => absurd hk (Nat.not_lt_zero _)
  | k, fuel + 1, i, p, hk, hi, e => by
    rw [SetTable.layClean.free]
    cases hf : (List.range (SetTable.runEnd mask i + 1 - i)).find? fun k => (owner.getD (i + k) (some 0)).isNone with
    | some k' =>
      refine ⟨i + k', rfl, ?_⟩
      have := List.find?_some hf
      simpa using this
    | none =>
      dsimp only
      cases k with
      | zero =>
        exfalso
        have := List.find?_eq_none.mp hf 0 (List.mem_range.mpr (by unfold SetTable.runEnd; split <;> omega))
        apply this
        rw [Nat.add_zero, show i = j₀ from e, h0]; rfl
      | succ k => exact free_some h0 k fuel _ _ (by omega) (lp_le mask 1 (i, p) hi) e
theorem filterMap_all {α β : Type} {f : α → Option β} : ∀ {l : List α}, (∀ a ∈ l, f a ≠ none) → (l.filterMap f).length = l.length
  | [], _ => rfl
  | a :: l, h => by
    cases e : f a with
    | none => exact absurd e (h a (.head _))
    | some b => rw [List.filterMap_cons_some e, List.length_cons, List.length_cons, filterMap_all fun x hx => h x (.tail _ hx)]
theorem filterMap_congr' {α β : Type} {f g : α → Option β} : ∀ {l : List α}, (∀ a ∈ l, f a = g a) → l.filterMap f = l.filterMap g
  | [], _ => rfl
  | a :: l, h => by rw [List.filterMap_cons, List.filterMap_cons, h a (.head _), filterMap_congr' fun x hx => h x (.tail _ hx)]
theorem nodup_le {α : Type} [BEq α] [LawfulBEq α] : ∀ {l l' : List α}, l.Nodup → (∀ a ∈ l, a ∈ l') → l.length ≤ l'.length
  | [], _, _, _ => Nat.zero_le _
  | a :: l, l', hn, h => by
    obtain ⟨h1, h2⟩ := List.nodup_cons.mp hn
    have ha := h a (.head _)
    have := nodup_le (l' := l'.erase a) h2 fun x hx => (List.mem_erase_of_ne (fun e : x = a => h1 (by rw [← e]; exact hx))).mpr (h x (.tail _ hx))
    rw [List.length_erase_of_mem ha] at this
    have := List.length_pos_of_mem ha
    rw [List.length_cons]; omega
theorem filterMap_set {α β : Type} [DecidableEq α] {f g : α → Option β} {j : α} {b : β} (hf : f j = none) (hg : g j = some b) (hne : ∀ a, a ≠ j → g a = f a) : ∀ {l : List α}, l.Nodup → j ∈ l → (l.filterMap g).Perm (b :: l.filterMap f)
  | [], _, hm => nomatch hm
  | a :: l, hn, hm => by
    obtain ⟨h1, h2⟩ := List.nodup_cons.mp hn
    by_cases e : a = j
    · subst e
      rw [List.filterMap_cons_some hg, List.filterMap_cons_none hf]
      have : l.filterMap g = l.filterMap f := filterMap_congr' fun x hx => hne x fun q => h1 (q ▸ hx)
      rw [this]
    · have hm' : j ∈ l := by rcases List.mem_cons.mp hm with q | q; exact absurd q.symm e; exact q
      have ih := filterMap_set hf hg hne h2 hm'
      cases q : f a with
      | none => rw [List.filterMap_cons_none (by rw [hne a e, q]), List.filterMap_cons_none q]; exact ih
      | some c =>
        rw [List.filterMap_cons_some (by rw [hne a e, q]), List.filterMap_cons_some q]
        exact (ih.cons c).trans (.swap ..)
def Laid (mask : Nat) (owner : Array (Option Nat)) (k : Nat) : Prop := owner.size = mask + 1 ∧ ((List.range (mask + 1)).filterMap (fun j => owner.getD j none)).Perm (List.range k)
theorem getD_none {owner : Array (Option Nat)} {j : Nat} (h : owner.getD j (some 0) = none) : j < owner.size ∧ owner.getD j none = none := by
  rw [Array.getD_eq_getD_getElem?] at h ⊢
  cases e : owner[j]? with
  | none => rw [e] at h; cases h
  | some v => rw [e] at h; exact ⟨(Array.getElem?_eq_some_iff.mp e).1, h⟩
theorem laid_step {mask : Nat} (hm : Masks mask) {owner : Array (Option Nat)} {k : Nat} (hl : Laid mask owner k) (hk : k ≤ mask) (h : Int) :
    ∃ j, SetTable.layClean.free mask owner (SetTable.turns mask) (SetTable.bits h % (mask + 1)) (SetTable.bits h) = some j ∧ Laid mask (owner.setIfInBounds j (some k)) (k + 1) := by
  obtain ⟨hs, hp⟩ := hl
  have hex : ∃ j₀, j₀ ≤ mask ∧ owner.getD j₀ (some 0) = none := by
    apply Classical.byContradiction
    intro hno
    have : ∀ a ∈ List.range (mask + 1), owner.getD a none ≠ none := fun a ha q => by
      have hlt : a < owner.size := by rw [hs]; exact List.mem_range.mp ha
      refine hno ⟨a, by have := List.mem_range.mp ha; omega, ?_⟩
      rw [Array.getD_eq_getD_getElem?] at q ⊢
      rw [Array.getElem?_eq_getElem hlt] at q ⊢
      exact q
    have := filterMap_all this
    rw [hp.length_eq, List.length_range, List.length_range] at this
    omega
  obtain ⟨j₀, hj₀, h0⟩ := hex
  have hi : SetTable.bits h % (mask + 1) ≤ mask := by have := Nat.mod_lt (SetTable.bits h) (show 0 < mask + 1 by omega); omega
  obtain ⟨kk, hkk, e⟩ := lp_cover hm hi (bits_lt h) hj₀
  obtain ⟨j, hj, hn⟩ := free_some h0 kk (SetTable.turns mask) _ _ (by unfold SetTable.turns; omega) hi e
  refine ⟨j, hj, by rw [Array.size_setIfInBounds]; exact hs, ?_⟩
  obtain ⟨hlt, hn'⟩ := getD_none hn
  have hperm := filterMap_set (f := fun j => owner.getD j none) (g := fun j' => (owner.setIfInBounds j (some k)).getD j' none) (j := j) (b := k) hn' (by simp [hlt]) (fun a ha => by
    simp only [Array.getD_eq_getD_getElem?]
    rw [Array.getElem?_setIfInBounds_ne (Ne.symm ha)]) (l := List.range (mask + 1)) List.nodup_range (List.mem_range.mpr (by omega))
  refine hperm.trans ((hp.cons k).trans ?_)
  rw [List.range_succ]
  exact (List.perm_append_singleton k _).symm
theorem layClean_some {mask : Nat} (hm : Masks mask) (hashes : Array Int) (hs : hashes.size ≤ mask) : ∃ owner, SetTable.layClean mask hashes = some owner ∧ Laid mask owner hashes.size := by
  unfold SetTable.layClean
  rw [← Array.foldl_toList]
  have key : ∀ (l : List Int) owner k, Laid mask owner k → k + l.length ≤ mask → ∃ owner', l.foldl (fun acc h => do
      let (owner, k) ← acc
      let j ← SetTable.layClean.free mask owner (SetTable.turns mask) (SetTable.bits h % (mask + 1)) (SetTable.bits h)
      pure (owner.setIfInBounds j (some k), k + 1)) (some (owner, k)) = some (owner', k + l.length) ∧ Laid mask owner' (k + l.length) := by
    intro l
    induction l with
    | nil => intro owner k hl _; exact ⟨owner, rfl, hl⟩
    | cons h l ih =>
      intro owner k hl hk
      rw [List.length_cons] at hk ⊢
      obtain ⟨j, hj, hl'⟩ := laid_step hm hl (by omega) h
      obtain ⟨o', e, hl''⟩ := ih _ (k + 1) hl' (by omega)
      refine ⟨o', ?_, by rw [show k + (l.length + 1) = k + 1 + l.length by omega]; exact hl''⟩
      rw [List.foldl_cons]
      simp only [Option.bind_eq_bind, Option.bind_some, hj, Option.pure_def] at e ⊢
      rw [e, show k + (l.length + 1) = k + 1 + l.length by omega]
  obtain ⟨owner', e, hl⟩ := key hashes.toList (Array.replicate (mask + 1) none) 0 ⟨by simp, by
    have : (List.range (mask + 1)).filterMap (fun j => (Array.replicate (mask + 1) (none : Option Nat)).getD j none) = [] := by
      rw [List.filterMap_eq_nil_iff]
      intro a ha
      rw [Array.getD_eq_getD_getElem?]
      cases q : (Array.replicate (mask + 1) (none : Option Nat))[a]? with
      | none => rfl
      | some v => rw [Array.getElem?_replicate] at q; split at q <;> cases q; rfl
    rw [this]; exact .nil⟩ (by simpa using hs)
  refine ⟨owner', ?_, by simpa using hl⟩
  rw [e]; rfl
/-! probing -/
theorem go_run {t : SetTable} {f : Nat → Int} {h : Int} (hf : ∀ i, (f i == h) = false) : ∀ m fuel (p : SetTable.Probe), p.more = m →
    (∃ j d, SetTable.probe.go t f h (fuel + (m + 1)) p = some (.empty j d)) ∨
    ∃ p', SetTable.probe.go t f h (fuel + (m + 1)) p = SetTable.probe.go t f h fuel p' ∧ (p'.i, p'.perturb) = SetTable.leap t.mask p.i p.perturb ∧ p'.j = p'.i ∧ p'.more = SetTable.runEnd t.mask p'.i - p'.i := by
  intro m
  induction m with
  | zero =>
    intro fuel p hp
    rw [SetTable.probe.go]
    cases hs : t.slot p.j with
    | empty => exact .inl ⟨_, _, rfl⟩
    | dummy =>
      refine .inr ⟨_, rfl, ?_⟩
      unfold SetTable.advance
      rw [if_neg (by show ¬ p.more > 0; omega)]
      exact ⟨rfl, rfl, rfl⟩
    | live i =>
      dsimp only
      rw [hf i]
      refine .inr ⟨_, rfl, ?_⟩
      unfold SetTable.advance
      rw [if_neg (by omega)]
      exact ⟨rfl, rfl, rfl⟩
  | succ m ih =>
    intro fuel p hp
    rw [show fuel + (m + 1 + 1) = (fuel + (m + 1)) + 1 by omega, SetTable.probe.go]
    cases hs : t.slot p.j with
    | empty => exact .inl ⟨_, _, rfl⟩
    | dummy =>
      dsimp only
      have ha : (t.advance { p with dummy := some p.j }) = { p with dummy := some p.j, j := p.j + 1, more := p.more - 1 } := by unfold SetTable.advance; rw [if_pos (by show p.more > 0; omega)]
      rw [ha]
      exact ih fuel { p with dummy := some p.j, j := p.j + 1, more := p.more - 1 } (by show p.more - 1 = m; omega)
    | live i =>
      dsimp only
      rw [hf i]
      have ha : (t.advance p) = { p with j := p.j + 1, more := p.more - 1 } := by unfold SetTable.advance; rw [if_pos (by omega)]
      rw [ha]
      exact ih fuel { p with j := p.j + 1, more := p.more - 1 } (by show p.more - 1 = m; omega)
theorem go_some {t : SetTable} {f : Nat → Int} {h : Int} (hf : ∀ i, (f i == h) = false) {j₀ : Nat} (h0 : t.slot j₀ = .empty) : ∀ k fuel (p : SetTable.Probe), 10 * k < fuel → p.j = p.i → p.more = SetTable.runEnd t.mask p.i - p.i → (lp t.mask k (p.i, p.perturb)).1 = j₀ →
    ∃ j d, SetTable.probe.go t f h fuel p = some (.empty j d)
  | 0, fuel, p, hk, hj, hm, e => by
    obtain ⟨fuel, rfl⟩ : ∃ n, fuel = n + 1 := ⟨fuel - 1, by omega⟩
    rw [SetTable.probe.go, hj, show p.i = j₀ from e, h0]
    exact ⟨_, _, rfl⟩
  | k + 1, fuel, p, hk, hj, hm, e => by
    have hmore : p.more ≤ 9 := by rw [hm]; unfold SetTable.runEnd; split <;> omega
    rcases go_run hf p.more (fuel - (p.more + 1)) p rfl with q | ⟨p', q, e1, e2, e3⟩
    · rw [Nat.sub_add_cancel (by omega)] at q; exact q
    · rw [Nat.sub_add_cancel (by omega)] at q
      rw [q]
      refine go_some hf h0 k _ p' (by omega) e2 e3 ?_
      rw [e1]; exact e
theorem probe_empty {t : SetTable} (hd : t.dummies = #[]) {f : Nat → Int} {h : Int} : ∀ fuel (p : SetTable.Probe), p.dummy = none → ∀ j d, SetTable.probe.go t f h fuel p = some (.empty j d) → d = none ∧ t.place[SetTable.below t.place j]? ≠ some j := by
  intro fuel
  induction fuel with
  | zero => intro p _ j d e; rw [SetTable.probe.go] at e; cases e
  | succ fuel ih =>
    intro p hp j d e
    rw [SetTable.probe.go] at e
    have hadv : (t.advance p).dummy = none := by
      unfold SetTable.advance
      split
      · exact hp
      · exact hp
    unfold SetTable.slot at e
    dsimp only at e
    by_cases q : (t.place[SetTable.below t.place p.j]? == some p.j) = true
    · rw [if_pos q] at e
      dsimp only at e
      split at e
      · cases e
      · exact ih _ hadv _ _ e
    · rw [if_neg q, hd] at e
      simp only [show ∀ j, SetTable.has #[] j = false from fun j => by simp [SetTable.has], Bool.false_eq_true, if_false] at e
      cases e
      refine ⟨hp, fun h => q (by rw [h]; exact beq_self_eq_true _)⟩
theorem slot_free {t : SetTable} (hd : t.dummies = #[]) (hs : t.place.size ≤ t.mask) : ∃ j, j ≤ t.mask ∧ t.slot j = .empty := by
  apply Classical.byContradiction
  intro hno
  have hall : ∀ j ∈ List.range (t.mask + 1), j ∈ t.place.toList := fun j hj => by
    apply Classical.byContradiction
    intro hn
    refine hno ⟨j, by have := List.mem_range.mp hj; omega, ?_⟩
    unfold SetTable.slot
    dsimp only
    rw [if_neg, hd]
    · simp [SetTable.has]
    · intro q
      rw [beq_iff_eq] at q
      exact hn (Array.mem_toList_iff.mpr (Array.mem_of_getElem? q))
  have := nodup_le List.nodup_range hall
  rw [List.length_range, Array.length_toList] at this
  omega
/-- a table that leads its reader: no dummies, the places rise, plain -/
structure Led (bt : Bool) (t : SetTable) (n : Nat) : Prop where
  led : t.led = !bt
  rise : Rise t.place
  dum : t.dummies = #[]
  plain : t.plain = true
  tab : (t.mask = 7 ∧ n ≤ 4) ∨ (t.mask = 31 ∧ n ≤ 18) ∨ (t.mask = 127 ∧ n ≤ 76)
  size : t.place.size = n
theorem Led.masks {bt : Bool} {t : SetTable} {n : Nat} (h : Led bt t n) : Masks t.mask := by rcases h.tab with q | q | q; exact .inl q.1; exact .inr (.inl q.1); exact .inr (.inr q.1)
theorem Led.fits {bt : Bool} {t : SetTable} {n : Nat} (h : Led bt t n) : t.fits n = true := by
  unfold SetTable.fits SetTable.fill
  rw [h.dum, h.size]
  have := h.tab
  simp; omega
theorem led_fresh (bt : Bool) : Led bt (.fresh 0 0 (!bt)) 0 := ⟨rfl, .nil, rfl, rfl, .inl ⟨rfl, by omega⟩, rfl⟩
theorem size_insertAt {α : Type} (xs : Array α) (p : Nat) (x : α) : (SetTable.insertAt xs p x).size = xs.size + 1 := by
  have := (SetTable.insertAt_perm xs p x).length_eq
  simpa using this
/-- a new key laid: the table stays clean; when too full it is laid anew -/
theorem led_layNew {bt : Bool} {t : SetTable} {n : Nat} (hl : Led bt t n) (es : Array (Int × Value)) (hes : es.size = n) (h : Int) (x : Value) :
    ∃ es1 t1, layNew t es h x = (es1, t1, false, false) ∧ es1.toList.Perm (es.push (h, x)).toList ∧ t1.led = (!bt) ∧ Rise t1.place ∧ t1.dummies = #[] ∧ t1.plain = true ∧ t1.mask = t.mask ∧ t1.place.size = n + 1 := by
  have hf := hl.fits
  have htab := hl.tab
  obtain ⟨j₀, hj₀, h0⟩ := slot_free hl.dum (by rw [hl.size]; omega)
  have hi : SetTable.bits h % (t.mask + 1) ≤ t.mask := by have := Nat.mod_lt (SetTable.bits h) (show 0 < t.mask + 1 by omega); omega
  obtain ⟨k, hk, e⟩ := lp_cover hl.masks hi (bits_lt h) hj₀
  obtain ⟨j, d, hp⟩ := go_some (t := t) (f := fun _ => h + 1) (h := h) (fun _ => by rw [beq_eq_false_iff_ne]; omega) h0 k (10 * SetTable.turns t.mask) (t.probeStart h) (by unfold SetTable.turns; omega) rfl rfl e
  obtain ⟨rfl, hne⟩ := probe_empty hl.dum _ _ rfl _ _ hp
  have hfs : t.freeSlot h = some (j, false) := by
    unfold SetTable.freeSlot SetTable.probe
    rw [hp]; rfl
  have hhas : SetTable.has t.dummies j = false := by rw [hl.dum]; simp [SetTable.has]
  have hput : t.put j = ({ t with place := SetTable.insertAt t.place (SetTable.below t.place j) j, dummies := #[] }, SetTable.below t.place j) := by
    unfold SetTable.put
    rw [hhas, hl.dum]; rfl
  have hfit : ({ t with place := SetTable.insertAt t.place (SetTable.below t.place j) j, dummies := #[] } : SetTable).fits (es.size + 1) = true := by
    unfold SetTable.fits SetTable.fill
    simp only [size_insertAt, hl.size, hes]
    simp; omega
  refine ⟨SetTable.insertAt es (SetTable.below t.place j) (h, x), { t with place := SetTable.insertAt t.place (SetTable.below t.place j) j, dummies := #[] }, ?_, SetTable.insertAt_perm .., hl.led, rise_insert hl.rise hne, rfl, hl.plain, rfl, by rw [size_insertAt, hl.size]⟩
  unfold layNew
  rw [hfs]
  dsimp only
  rw [hput]
  dsimp only
  rw [size_insertAt, SetTable.orStandIn, if_pos hfit, hfit]
  rfl
theorem led_relayAll {bt : Bool} {t : SetTable} {n : Nat} (hl : t.led = !bt) (hpl : t.plain = true) (es : Array (Int × Value)) (hes : es.size = n) (wanted mask : Nat) (hw : SetTable.sizeAbove wanted = mask + 1) (htab : (mask = 7 ∧ n ≤ 4) ∨ (mask = 31 ∧ n ≤ 18) ∨ (mask = 127 ∧ n ≤ 76)) :
    ∃ es2 t2, relayAll t es wanted = (es2, t2, false) ∧ es2.toList.Perm es.toList ∧ Led bt t2 n := by
  have hm : Masks mask := by rcases htab with q | q | q; exact .inl q.1; exact .inr (.inl q.1); exact .inr (.inr q.1)
  obtain ⟨owner, ho, hs, hp⟩ := layClean_some hm (es.map (·.1)) (by rw [Array.size_map]; omega)
  rw [Array.size_map, hes] at hp
  have hperm := relayAll_perm t es wanted
  have hmask : SetTable.sizeAbove wanted - 1 = mask := by omega
  let live := (List.range (mask + 1)).filterMap fun j => (owner.getD j none).map (j, ·)
  have hord : live.map (·.2) = (List.range (mask + 1)).filterMap (fun j => owner.getD j none) := by
    show List.map _ (List.filterMap _ _) = _
    rw [List.map_filterMap]
    refine filterMap_congr' fun a _ => ?_
    cases owner.getD a none <;> rfl
  have hlen : live.length = n := by
    have := congrArg List.length hord
    rw [List.length_map, hp.length_eq, List.length_range] at this
    exact this
  have hrel : t.relaid (es.map (·.1)) wanted = some ({ mask := mask, place := (live.map (·.1)).toArray, dummies := #[], finger := t.finger, led := t.led, moves := t.movedTo mask, plain := t.plain }, (live.map (·.2)).toArray) := by
    unfold SetTable.relaid SetTable.laid
    rw [hmask, ho]; rfl
  have hled : Led bt { mask := mask, place := (live.map (·.1)).toArray, dummies := #[], finger := t.finger, led := t.led, moves := t.movedTo mask, plain := t.plain } n := by
    refine ⟨hl, ?_, rfl, hpl, htab, by simp [hlen]⟩
    unfold Rise
    show List.Pairwise _ (List.map _ (List.filterMap _ _))
    rw [List.map_filterMap]
    refine List.Pairwise.filterMap _ ?_ List.pairwise_lt_range
    intro a b hab c hc d hd
    cases ha : owner.getD a none with
    | none => rw [ha] at hc; cases hc
    | some k =>
      cases hb : owner.getD b none with
      | none => rw [hb] at hd; cases hd
      | some k' =>
        rw [ha] at hc; rw [hb] at hd
        cases hc; cases hd
        exact hab
  have hcov : coversAll (live.map (·.2)).toArray es.size = true := by
    unfold coversAll
    rw [List.isPerm_iff, hord, hes]; exact hp
  have hsz : ((live.map (·.2)).toArray.filterMap (es[·]?)).size = n := by
    rw [← Array.length_toList, Array.toList_filterMap]
    have : (((live.map (·.2)).toArray.toList).Perm (List.range es.size)) := by rw [hord, hes]; exact hp
    rw [(this.filterMap _).length_eq, filterMap_getElem?_range, Array.length_toList, hes]
  have hall : relayAll t es wanted = ((live.map (·.2)).toArray.filterMap (es[·]?), { mask := mask, place := (live.map (·.1)).toArray, dummies := #[], finger := t.finger, led := t.led, moves := t.movedTo mask, plain := t.plain }, false) := by
    unfold relayAll
    rw [hrel]
    dsimp only
    rw [hcov, hsz, hled.fits]
    rfl
  refine ⟨_, _, hall, ?_, hled⟩
  rw [hall] at hperm
  exact hperm
end
/-! part WuSetB -/
noncomputable section
section
variable {prog : Program} {w : World} {A : Around} {E : Value → Shared → Prop} {s : Shared}
abbrev IK (prog : Program) (w : World) := intKind prog w
def setObj (es : Array (Int × Value)) (ep : Nat) (t : SetTable) : Obj := { cls := .type "set", dict := none, data := .set es ep t, slots := #[] }
def KeysOf' (prog : Program) (w : World) (es : List (Int × Value)) (σ : List Int) : Prop := ∀ k, k ∈ σ ↔ ∃ e ∈ es, (IK prog w).is k e.2 = true
/-- a set of ints, its keys, its table led -/
def SetI (prog : Program) (w : World) (h : Heap) (a : Addr) (es : Array (Int × Value)) (σ : List Int) : Prop :=
  ∃ ep t, h.get? a = some (setObj es ep t) ∧ ElemsOf (IK prog w) es.toList ∧ KeysOf' prog w es.toList σ ∧ es.size = σ.length ∧ Led (w.params.followText "set-order") t σ.length
theorem upd_set {h : Heap} {a : Addr} {es es' : Array (Int × Value)} {ep : Nat} {t t' : SetTable} (ho : h.get? a = some (setObj es ep t)) :
    (h.update a (Obj.putSet es' t')).get? a = some (setObj es' (ep + 1) t') := by
  have := Heap.get?_update_self (Obj.putSet es' t') ho (by rw [putSet_of es' t' rfl]; rfl)
  rw [putSet_of es' t' rfl] at this; exact this
theorem mem_keys {es : List (Int × Value)} {σ : List Int} {k : Int} {x : Value} (hkey : (IK prog w).is k x = true) (hm : KeysOf' prog w es σ)
    {es' : List (Int × Value)} (p : List.Perm es' (es ++ [((IK prog w).hash k, x)])) : KeysOf' prog w es' (σ ++ [k]) := by
  intro k'
  rw [List.mem_append, List.mem_singleton, hm k']
  constructor
  · rintro (⟨e, he, hp⟩ | rfl)
    · exact ⟨e, p.mem_iff.mpr (List.mem_append_left _ he), hp⟩
    · exact ⟨_, p.mem_iff.mpr (List.mem_append_right _ (List.mem_singleton.mpr rfl)), hkey⟩
  · rintro ⟨e, he, hp⟩
    rcases List.mem_append.mp (p.mem_iff.mp he) with he | he
    · exact .inl ⟨e, he, hp⟩
    · rw [List.mem_singleton] at he; subst he
      exact .inr ((IK prog w).inj x k' k hp hkey)
theorem keys_perm {es es' : List (Int × Value)} {σ : List Int} (hm : KeysOf' prog w es σ) (hp : es'.Perm es) : KeysOf' prog w es' σ :=
  fun k' => (hm k').trans ⟨fun ⟨e, he, q⟩ => ⟨e, hp.mem_iff.mpr he, q⟩, fun ⟨e, he, q⟩ => ⟨e, hp.mem_iff.mp he, q⟩⟩
theorem set_add {a : Addr} {es : Array (Int × Value)} {σ : List Int} {k : Int} {x : Value} {Q : Bool → Shared → Prop} (hkey : (IK prog w).is k x = true) (hsc : x.scannable = true) (hplain : plainKind x = true) (hS : SetI prog w s.heap a es σ) (hroom : σ.length + 1 < 70)
    (h : ∀ b h' es', Heap.SameBut a s.heap h' → SetI prog w h' a es' (step_dedup σ k) → Q b { s with heap := h' }) :
    wpAny (model prog w) A (setAddHashed a x ((IK prog w).hash k)) Q E s := by
  obtain ⟨ep, t, ho, hel, hmem, hn, hl⟩ := hS
  have hf : t.fits es.size = true := by rw [hn]; exact hl.fits
  have hb : es.size < scanBound := by unfold scanBound; omega
  unfold setAddHashed setAddHashedIn
  refine wpAny_holding (wpAny_bind (wpAny_setState_of ho rfl hf ?_))
  dsimp only
  rw [byScan_of hsc hb hel]
  simp only [↓reduceIte]
  unfold setAddByScan
  refine wpAny_bind ?_
  refine wpAny_bind (wpAny_rule ?_)
  refine wpAny_bind (wpAny_setScan_of hkey ho rfl hf hel ?_)
  cases hr : List.findIdx? (fun e => (IK prog w).is k e.2) es.toList with
  | some j =>
    dsimp only
    obtain ⟨hj, hpj, _⟩ := List.findIdx?_eq_some_iff_getElem.mp hr
    have hk : k ∈ σ := (hmem k).mpr ⟨es.toList[j], List.getElem_mem hj, hpj⟩
    have hd : step_dedup σ k = σ := by
      unfold step_dedup
      have : (σ.any fun x => x == k) = true := List.any_eq_true.mpr ⟨k, hk, beq_self_eq_true k⟩
      rw [this]; rfl
    refine wpAny_pure (wpAny_pure ?_)
    have e : s = { s with heap := s.heap } := by cases s; rfl
    rw [e]
    refine h _ s.heap es (Heap.SameBut.refl a s.heap) ?_
    rw [hd]
    exact ⟨ep, t, ho, hel, hmem, hn, hl⟩
  | none =>
    dsimp only
    have hk : k ∉ σ := fun hk => by
      obtain ⟨e, he, hp⟩ := (hmem k).mp hk
      have := List.findIdx?_eq_none_iff.mp hr e he
      rw [hp] at this; cases this
    have hd : step_dedup σ k = σ ++ [k] := by
      unfold step_dedup
      refine if_neg fun q => ?_
      obtain ⟨y, hy, e⟩ := List.any_eq_true.mp q
      rw [beq_iff_eq] at e
      exact hk (e ▸ hy)
    rw [hd] at h
    obtain ⟨es1, t1, hL, hperm, a1, a2, a3, a4, a5, a6⟩ := led_layNew hl es hn ((IK prog w).hash k) x
    rw [hL]
    dsimp only
    rw [Array.toList_push] at hperm
    have hel1 : ElemsOf (IK prog w) es1.toList := (hel.push hkey hsc).perm hperm
    have hmem1 : KeysOf' prog w es1.toList (σ ++ [k]) := mem_keys hkey hmem hperm
    have hsz1 : es1.size = σ.length + 1 := by rw [← Array.length_toList, hperm.length_eq, List.length_append, Array.length_toList, hn]; rfl
    have hb1 : es1.size < scanBound := by unfold scanBound; omega
    have hlen : (σ ++ [k]).length = σ.length + 1 := by simp
    refine wpAny_bind (wpAny_pure ?_)
    rw [a4]
    simp only [↓reduceIte]
    refine wpAny_bind ?_
    rw [hashByValue_scannable 8 hsc, hplain]
    refine wpAny_pure ?_
    simp only [↓reduceIte]
    refine wpAny_bind (wpAny_storeSet_of ho rfl ?_ (fits_of_scanBound hb1))
    have ho1 := upd_set (es' := es1) (t' := t1) ho
    have hsb1 := Heap.SameBut.update s.heap a (Obj.putSet es1 t1)
    have htab := hl.tab
    by_cases hfull : t1.tooFull = true
    · rw [hfull]
      simp only [Bool.not_false, Bool.and_self, ↓reduceIte]
      have hfill : t1.fill = σ.length + 1 := by unfold SetTable.fill; rw [a6, a3]; rfl
      have hfull' : t1.fill * 5 ≥ t1.mask * 3 := by unfold SetTable.tooFull at hfull; simpa using hfull
      rw [hfill, a5] at hfull'
      have hw : ∃ mask, SetTable.sizeAbove (SetTable.grown es1.size) = mask + 1 ∧ ((mask = 7 ∧ σ.length + 1 ≤ 4) ∨ (mask = 31 ∧ σ.length + 1 ≤ 18) ∨ (mask = 127 ∧ σ.length + 1 ≤ 76)) := by
        rw [hsz1]
        rcases htab with ⟨q, r⟩ | ⟨q, r⟩ | ⟨q, r⟩
        · have : σ.length = 4 := by omega
          rw [this]; exact ⟨31, by decide, by omega⟩
        · have : σ.length = 18 := by omega
          rw [this]; exact ⟨127, by decide, by omega⟩
        · exfalso; omega
      obtain ⟨mask, hw1, hw2⟩ := hw
      obtain ⟨es2, t2, hR, hp2, hl2⟩ := led_relayAll a1 a4 es1 hsz1 _ mask hw1 hw2
      rw [hR]
      dsimp only
      have hsz2 : es2.size = σ.length + 1 := by rw [← Array.length_toList, hp2.length_eq, Array.length_toList, hsz1]
      refine wpAny_bind (wpAny_pure ?_)
      refine wpAny_bind (wpAny_storeSet_of ho1 rfl ?_ (fits_of_scanBound (by unfold scanBound; omega)))
      exact wpAny_pure (wpAny_pure (h true _ es2 (hsb1.trans (Heap.SameBut.update _ a _)) ⟨_, t2, upd_set ho1, hel1.perm hp2, keys_perm hmem1 hp2, by rw [hsz2, hlen], by rw [hlen]; exact hl2⟩))
    · rw [Bool.not_eq_true] at hfull
      rw [hfull]
      simp only [Bool.not_false, Bool.and_false, Bool.false_eq_true, ↓reduceIte]
      have hfull' : ¬ t1.fill * 5 ≥ t1.mask * 3 := by unfold SetTable.tooFull at hfull; simpa using hfull
      have hfill : t1.fill = σ.length + 1 := by unfold SetTable.fill; rw [a6, a3]; rfl
      rw [hfill, a5] at hfull'
      exact wpAny_pure (wpAny_pure (h true _ es1 hsb1 ⟨_, t1, ho1, hel1, hmem1, by rw [hsz1, hlen], a1, a2, a3, a4, by rw [hlen, a5]; omega, by rw [hlen]; exact a6⟩))
end
end
/-! part WuSetC -/
noncomputable section
theorem setI_keep {prog : Program} {w : World} {h h' : Heap} {a : Addr} {es : Array (Int × Value)} {σ : List Int} (hS : SetI prog w h a es σ) (e : ∀ o, h.get? a = some o → h'.get? a = some o) : SetI prog w h' a es σ := by
  obtain ⟨ep, t, ho, rest⟩ := hS
  exact ⟨ep, t, e _ ho, rest⟩
section
variable {prog : Program} {w : World} {A : Around} {R : Result → Shared → Prop} {I : Addr} {fp wr : List Addr} {G : Array GenState → Array GenState → Prop} {n : Nat} {P : Nat → Value → Prop} {St : Nat → Shared → Prop}
theorem set_loop (W : WalksS prog w A.in1 I fp wr G n P St) (S : Addr) (hSf : S ∉ fp)
    (val : Nat → Int) (hval : ∀ i v, P i v → ∃ t, v = .int (val i) t) (hb : n < 69) :
    ∀ (k i : Nat) (s : Shared) (es : Array (Int × Value)), n - i = k → i ≤ n → St i s → SetI prog w s.heap S es (firstMet val i) →
      (∀ s' es', Moved (S :: wr) G s s' → SetI prog w s'.heap S es' (firstMet val n) → R (.ok (.ret .none)) s') →
      codeAny (model prog w) A (.builtin "set.update.loop" ⟨[.ref S, .ref I], []⟩) R s := by
  have hSw : S ∉ wr := fun h => hSf (W.sub _ h)
  have hsub : ∀ b ∈ wr, b ∈ S :: wr := fun b hb => List.mem_cons_of_mem _ hb
  intro k
  induction k with
  | zero =>
    intro i s es hk hi hst hS hR
    have hin : i = n := by omega
    subst hin
    refine codeAny_builtin F.entry_set_update_loop ?_
    rw [Around.under_plainId F.plain_set_update_loop _]
    show wpAny _ A.in1 (pyNext (.ref I) >>= _) _ _ s
    refine wpAny_bind (W.done s _ _ hst fun s' hm => ?_)
    show wpAny _ A.in1 (ret Value.none) _ _ s'
    exact wpAny_pure (hR s' es (hm.mono hsub) (setI_keep hS fun o e => hm.heap S _ hSw e))
  | succ k ih =>
    intro i s es hk hi hst hS hR
    have hlt : i < n := by omega
    refine codeAny_builtin F.entry_set_update_loop ?_
    rw [Around.under_plainId F.plain_set_update_loop _]
    show wpAny _ A.in1 (pyNext (.ref I) >>= _) _ _ s
    refine wpAny_bind (W.item i s _ _ hlt hst fun v s' hP hst' hm => ?_)
    obtain ⟨t, rfl⟩ := hval i v hP
    have hS' : SetI prog w s'.heap S es (firstMet val i) := setI_keep hS fun o e => hm.heap S _ hSw e
    show wpAny _ A.in1 (holding [Value.int (val i) t] (setAdd S (.int (val i) t)) >>= _) _ _ s'
    refine wpAny_bind (wpAny_holding ?_)
    unfold setAdd
    refine wpAny_holding ?_
    refine wpAny_bind ((intKind prog w).pyHash (k := val i) (intKind_is _ _ _ _) ?_)
    have hroom : (firstMet val i).length + 1 < 70 := by have := firstMet_length_le val i; omega
    refine set_add (s := { s' with toks := s'.toks + 1 }) (intKind_is _ _ _ _) rfl rfl hS' hroom fun b h' es' hsb hS2 => ?_
    rw [← firstMet_succ] at hS2
    refine wpAny_pure ⟨plainId_quiet F.plain_set_update_loop _, ih (i + 1) _ es' (by omega) hlt (W.frame _ s' _ _ hst' (Nat.le_succ _) fun b hb o e => ?_) hS2 fun s'' es'' hm'' hS'' => ?_⟩
    · rw [hsb.2 b (fun h : b = S => hSf (by rw [← h]; exact hb))]; exact e
    · refine hR s'' es'' (Moved.trans W.gtrans ((hm.mono hsub).then_heap (Nat.le_succ _) fun b o hb e => ?_) hm'') hS''
      rw [hsb.2 b (fun h : b = S => hb (by rw [h]; exact List.mem_cons_self))]; exact e
end
section
variable {prog : Program} {w : World} {A : Around} {E : Value → Shared → Prop} {s : Shared}
theorem code_set_new (a : Value) {Q₁ : Value → Shared → Prop}
    (h : Q₁ (.ref s.heap.objs.size) { s with heap := s.heap.push (setObj #[] 0 (.fresh 0 0 (!(w.params.followText "set-order")))) }) :
    codeAny (model prog w) A (.call (.builtin "set.__new__") ⟨[.type "set", a], []⟩) (wants Q₁ E) s := by
  refine codeAny_of_tree ?_
  show wpAny _ A.in1 (do checkBuiltinCall "set.__new__" ⟨[.type "set", a], []⟩; again (.builtin "set.__new__" ⟨[.type "set", a], []⟩)) _ _ s
  refine wpAny_bind (wpAny_of_eq (F.newCall_set_1 a) (wpAny_pure ⟨plainId_quiet F.plain_set_new _, codeAny_builtin F.entry_set_new ?_⟩))
  rw [Around.under_plainId F.plain_set_new _]
  unfold Builtin.«set.__new__» Builtin.Frozenset.newClass
  have hsub := sub_set_self
  obtain ⟨hp, g, d, tk, os⟩ := s
  dsimp only
  wp_walk
  refine wpAny_askSetting (wpAny_pure ?_)
  dsimp only
  simp only [newObj]
  refine wpAny_bind (wpAny_alloc (wpAny_pure ?_))
  exact wpAny_pure h
theorem call_set {l : Addr} {items : Array Value} {ns : List Int} {Q : Value → Shared → Prop}
    (hh : A.handled = none) (hl : s.heap.IsList l items) (hi : PyProof.Rows.IntsAre items.toList ns) (hb : items.size < 69)
    (h : ∀ (h' : Heap) (tk : Nat) es, SetI prog w h' s.heap.objs.size es (PyProof.Rows.firstMet (fun i => ns.getD i 0) items.size) →
      (∀ b o, b < s.heap.objs.size → s.heap.get? b = some o → h'.get? b = some o) → Q (.ref s.heap.objs.size) { s with heap := h', toks := tk }) :
    wpAny (model prog w) A (call (.type "set") [.ref l]) Q E s := by
  obtain ⟨c, tl, hmro⟩ := F.called_set.mro
  have hmade := F.called_set.made
  have hsub := F.called_set.sub
  refine wpAny_call (codeAny_of_tree ?_)
  show wpAny _ _ (callAny (.type "set") _) _ _ _
  refine wpAny_pure ⟨Code.quiet_builtin _ (by decide +kernel), codeAny_builtin F.entry_type_call ?_⟩
  rw [Around.under_plain (weight_type_call_type "set" [.ref l] []) rfl]
  have h1 := F.called_set.notType
  have h2 := F.called_set.canCreate
  have hct := F.typeCall_set_1 (.ref l)
  repeat (any_goals (first | assumption | wp_step))
  refine codeAny_mono (code_set_new (.ref l) (E := E) (Q₁ := fun obj s₁ => obj = .ref s.heap.objs.size ∧ s₁ = { s with heap := s.heap.push (setObj #[] 0 (.fresh 0 0 (!(w.params.followText "set-order")))) }) ⟨rfl, rfl⟩) fun r s₁ hr => ?_
  cases r with
  | error e => exact hr
  | ok fl =>
    cases fl with
    | ret obj =>
      obtain ⟨rfl, rfl⟩ := hr
      have hS : (s.heap.push (setObj #[] 0 (.fresh 0 0 (!(w.params.followText "set-order"))))).get? s.heap.objs.size = some (setObj #[] 0 (.fresh 0 0 (!(w.params.followText "set-order")))) := Heap.get?_push_size _ rfl
      have hT : Shared.TypeIs { s with heap := s.heap.push (setObj #[] 0 (.fresh 0 0 (!(w.params.followText "set-order")))) } (.ref s.heap.objs.size) "set" := ⟨_, hS, rfl⟩
      have hli := F.called_set.init.lookup
      have hbi := F.called_set.init.bind (.ref s.heap.objs.size)
      repeat (any_goals (first | assumption | wp_step))
      refine codeAny_mono (codeAny_call_builtin (R := wants (fun r s₂ => r = .none ∧ ∃ h' tk es, s₂ = { s with heap := h', toks := tk } ∧
          SetI prog w h' s.heap.objs.size es (PyProof.Rows.firstMet (fun i => ns.getD i 0) items.size) ∧
          (∀ b o, b < s.heap.objs.size → s.heap.get? b = some o → h'.get? b = some o)) E) F.called_set.init.plain F.entry_set_init (check_set_init_1 hT ?_)) fun r₂ s₂ hr₂ => ?_
      · obtain ⟨ol, hol, hcl, nl, hdl⟩ := hl
        obtain ⟨ocls, odict, odata, oslots⟩ := ol
        simp only at hcl hdl
        subst hcl; subst hdl
        have hol' : (s.heap.push (setObj #[] 0 (.fresh 0 0 (!(w.params.followText "set-order"))))).get? l = some { cls := .type "list", dict := odict, data := .seq items nl, slots := oslots } := Heap.get?_push_of_some _ hol
        have hsls := F.sub_list_set
        have hslf := F.sub_list_frozenset
        have hne : (Value.type "list" == Value.type "dict") = false := by decide
        have hl1 : (s.heap.push (setObj #[] 0 (.fresh 0 0 (!(w.params.followText "set-order"))))).IsList l items := ⟨_, hol', rfl, nl, rfl⟩
        unfold Builtin.«set.__init__» noKeywords Builtin.Frozenset.updateFrom
        generalize hPI : pyIter = PI
        wp_walk
        subst hPI
        refine wpAny_pyIter_list hl1 ?_
        refine wpAny_bind (wpAny_runValue ?_)
        have hlS : l < s.heap.objs.size := Heap.lt_size hol
        have hh3 : A.in1.in1.in1.handled = none := by simp [hh]
        have hneI : l ≠ (s.heap.push (setObj #[] 0 (.fresh 0 0 (!(w.params.followText "set-order"))))).objs.size := by
          rw [Heap.size_push]; exact Nat.ne_of_lt (Nat.lt_succ_of_lt hlS)
        have hSf : s.heap.objs.size ∉ [(s.heap.push (setObj #[] 0 (.fresh 0 0 (!(w.params.followText "set-order"))))).objs.size, l] := by
          rw [Heap.size_push]; simp only [List.mem_cons, List.mem_singleton, List.not_mem_nil, or_false, not_or]
          exact ⟨Nat.ne_of_lt (Nat.lt_succ_self _), Nat.ne_of_gt hlS⟩
        have hval : ∀ (i : Nat) (v : Value), items[i]? = some v → ∃ t, v = .int ((fun i => ns.getD i 0) i) t := fun i v hv =>
          PyProof.Rows.IntsAre.int_at hi i v (by rw [Array.getElem?_toList]; exact hv)
        refine set_loop ((Walks.list hh3 _ l hneI items).toS) s.heap.objs.size
          hSf (fun i => ns.getD i 0) hval hb (items.size - 0) 0 _ #[] (by omega) (Nat.zero_le _)
          ⟨⟨_, Heap.get?_push_size _ rfl, rfl, rfl⟩, (hl1.push _)⟩ ?hS0 ?hR
        case hS0 =>
          exact ⟨0, _, Heap.get?_push_of_some _ hS, fun e he => by simp at he, fun k => by simp [firstMet_zero], rfl, led_fresh _⟩
        case hR =>
          intro s' es' hm hS'
          obtain ⟨h', g', d', tk', os'⟩ := s'
          have eg : g' = s.gens := hm.gens
          have ed : d' = s.drawn := hm.drawn
          have eo : os' = s.os := hm.os
          subst eg; subst ed; subst eo
          show wpAny _ _ _ _ _ _
          refine wpAny_pure ?_
          show wpAny _ _ (ret Value.none) _ _ _
          refine wpAny_pure ⟨rfl, h', tk', es', rfl, hS', fun b o hb e => ?_⟩
          have hb1 : b ≠ s.heap.objs.size := Nat.ne_of_lt hb
          have hb2 : b ≠ (s.heap.push (setObj #[] 0 (.fresh 0 0 (!(w.params.followText "set-order"))))).objs.size := by
            rw [Heap.size_push]; exact Nat.ne_of_lt (Nat.lt_succ_of_lt hb)
          exact hm.heap b o (by simp only [List.mem_cons, List.mem_singleton, List.not_mem_nil, or_false, not_or]; exact ⟨hb1, hb2⟩) (Heap.get?_push_of_some _ (Heap.get?_push_of_some _ e))
      · cases r₂ with
        | error e => exact hr₂
        | ok fl₂ =>
          cases fl₂ with
          | ret r =>
            obtain ⟨rfl, h', tk, es, rfl, hS', hk'⟩ := hr₂
            repeat (any_goals (first | assumption | wp_step))
            exact h _ _ es hS' hk'
          | _ => exact hr₂.elim
    | _ => exact hr.elim
end
end
/-! part WuSetD -/
noncomputable section
theorem entry_set_iter : entryFor table "set.__iter__" = some Builtin.«frozenset.__iter__» :=
  entryFor_alias (id' := "frozenset.__iter__") (by kernel_rfl) rfl (by decide +kernel) (by kernel_rfl)
theorem slot_si_next : Slot "set_iterator" "__next__" "set_iterator.__next__" :=
  .of (owner := "set_iterator") (n := "__next__") (by rw [typeLookup_type, builtinLookup_eq_fast]; kernel_rfl) (by decide +kernel) (by decide +kernel) (by decide +kernel)
    (by first | exact .inl (by decide +kernel) | exact .inr (by decide +kernel)) (by rw [isSubtype_type]; kernel_rfl)
theorem entry_si_next : entryFor table "set_iterator.__next__" = some Builtin.«set_iterator.__next__» := entryFor_of_tree (by kernel_rfl)
theorem owner_si : Manifest.owners.lookup (String.ofList ['r', 'o', 't', 'a', 'r', 'e', 't', 'i', '_', 't', 'e', 's'].reverse) = some Manifest.sig_set_iterator := by kernel_rfl
theorem args_si_next (a : Value) : argsOk "set_iterator.__next__" ⟨[a], []⟩ := by
  unfold argsOk; rw [signature?_of (id := "set_iterator.__next__") (n := ['_', '_', 't', 'x', 'e', 'n', '_', '_']) (o := ['r', 'o', 't', 'a', 'r', 'e', 't', 'i', '_', 't', 'e', 's']) (by kernel_rfl) owner_si]; kernel_rfl
theorem slot_si_iter : Slot "set_iterator" "__iter__" "set_iterator.__iter__" :=
  .of (owner := "set_iterator") (n := "__iter__") (by rw [typeLookup_type, builtinLookup_eq_fast]; kernel_rfl) (by decide +kernel) (by decide +kernel) (by decide +kernel)
    (by first | exact .inl (by decide +kernel) | exact .inr (by decide +kernel)) (by rw [isSubtype_type]; kernel_rfl)
theorem entry_si_iter : entryFor table "set_iterator.__iter__" = some Builtin.«dict_keyiterator.__iter__» :=
  entryFor_alias (id' := "dict_keyiterator.__iter__") (by kernel_rfl) rfl (by decide +kernel) (by kernel_rfl)
theorem args_si_iter (a : Value) : argsOk "set_iterator.__iter__" ⟨[a], []⟩ := by
  unfold argsOk; rw [signature?_of (id := "set_iterator.__iter__") (n := ['_', '_', 'r', 'e', 't', 'i', '_', '_']) (o := ['r', 'o', 't', 'a', 'r', 'e', 't', 'i', '_', 't', 'e', 's']) (by kernel_rfl) owner_si]; kernel_rfl
theorem erase_perm {α : Type} : ∀ {l : List α} {i : Nat} (h : i < l.length), (l[i] :: l.eraseIdx i).Perm l
  | a :: l, 0, _ => by simp
  | a :: l, i + 1, h => by
    rw [List.getElem_cons_succ, List.eraseIdx_cons_succ]
    exact (List.Perm.swap ..).trans ((erase_perm (Nat.lt_of_succ_lt_succ h)).cons a)
theorem pick_go {α : Type} (next : Nat → Nat) : ∀ fuel k (left : List α) (out : Array α), left.length ≤ fuel → (pickOrder.go next fuel k left out).toList.Perm (out.toList ++ left) := by
  intro fuel
  induction fuel with
  | zero =>
    intro k left out h
    have : left = [] := List.length_eq_zero_iff.mp (by omega)
    subst this
    rw [pickOrder.go, List.append_nil]
  | succ fuel ih =>
    intro k left out h
    rw [pickOrder.go]
    cases left with
    | nil => simp
    | cons a l =>
      have hlt : next k % (a :: l).length < (a :: l).length := Nat.mod_lt _ (by simp)
      rw [List.getElem?_eq_getElem hlt]
      dsimp only
      refine (ih _ _ _ (by rw [List.length_eraseIdx, if_pos hlt]; simp at h ⊢; omega)).trans ?_
      rw [Array.toList_push, List.append_assoc, List.singleton_append]
      refine List.Perm.append_left _ ?_
      exact erase_perm hlt
theorem pick_perm {α : Type} (next : Nat → Nat) (xs : Array α) : (pickOrder next xs).toList.Perm xs.toList := by
  have := pick_go next xs.size 0 xs.toList #[] (by simp)
  simpa [pickOrder] using this
theorem below_next {xs : Array Nat} (h : Rise xs) {i : Nat} (hi : i < xs.size) : SetTable.below xs (xs.getD i 0 + 1) = i + 1 := by
  obtain ⟨h1, h2, h3⟩ := below_spec h (xs.getD i 0 + 1)
  rcases Nat.lt_trichotomy (SetTable.below xs (xs.getD i 0 + 1)) (i + 1) with q | q | q
  · have := h3 i (by omega) hi; omega
  · exact q
  · have := h2 (i + 1) q
    have := rise_lt h (i := i) (j := i + 1) (by omega) (by omega)
    omega
theorem below_zero {xs : Array Nat} (h : Rise xs) : SetTable.below xs 0 = 0 := by
  obtain ⟨h1, h2, h3⟩ := below_spec h 0
  rcases Nat.eq_zero_or_pos (SetTable.below xs 0) with q | q
  · exact q
  · have := h2 0 q; omega
section
variable {prog : Program} {w : World} {A : Around} {E : Value → Shared → Prop} {s : Shared}
/-- the order in which the set is walked -/
def ordOf (w : World) (S : Addr) (ep : Nat) (es : Array (Int × Value)) : Array (Int × Value) := if w.params.followText "set-order" then pickOrder (w.params.setOrder S ep) es else es
def SIter (w : World) (h : Heap) (I S : Addr) (i n ep : Nat) (t : SetTable) : Prop :=
  ∃ slot : Nat, h.get? I = some { cls := .type "set_iterator", data := .fields #[.int slot 0, .int i 0, .ref S, .int n 0, .int ep 0] } ∧ (w.params.followText "set-order" = false → SetTable.below t.place slot = i)
theorem byText_eq {Q : Bool → Shared → Prop} (h : Q (w.params.followText "set-order") s) : wpAny (model prog w) A setsByText Q E s := by
  unfold setsByText
  exact wpAny_bind (wpAny_askSetting (wpAny_pure h))
theorem setNext_eq {S : Addr} {es : Array (Int × Value)} {ep i slot : Nat} {t : SetTable} {Q : Option (Value × Nat) → Shared → Prop}
    (ho : s.heap.get? S = some (setObj es ep t)) (hl : Led (w.params.followText "set-order") t es.size) (hslot : w.params.followText "set-order" = false → SetTable.below t.place slot = i)
    (h : ∀ slot' : Nat, (w.params.followText "set-order" = false → i < es.size → SetTable.below t.place slot' = i + 1) → Q (((ordOf w S ep es)[i]?).map fun e => (e.2, slot')) s) :
    wpAny (model prog w) A (setNext S slot i ep) Q E s := by
  unfold setNext
  refine wpAny_bind (wpAny_setState_of ho rfl hl.fits ?_)
  dsimp only
  refine wpAny_bind (byText_eq ?_)
  cases hbt : w.params.followText "set-order" with
  | true =>
    rw [hbt] at hl hslot h
    simp only [↓reduceIte]
    rw [if_neg (by simp)]
    unfold setWalk
    refine wpAny_bind ?_
    refine wpAny_bind (wpAny_setState_of ho rfl hl.fits ?_)
    dsimp only
    refine wpAny_bind (byText_eq ?_)
    rw [hbt]
    simp only [↓reduceIte]
    refine wpAny_bind (wpAny_askSetting ?_)
    refine wpAny_pure (wpAny_pure ?_)
    have := h slot (fun q => nomatch q)
    unfold ordOf at this
    rw [hbt] at this
    exact this
  | false =>
    rw [hbt] at hl hslot h
    simp only [Bool.false_eq_true, ↓reduceIte]
    have hpl : t.plain = true := hl.plain
    have hle : t.led = true := hl.led
    have hb := hslot rfl
    refine wpAny_ite_split (fun hd => ?_) (fun _ => ?_)
    · exfalso
      have hd' : (!t.plain && decide (es.size > 1)) = true := hd
      rw [hpl] at hd'; cases hd'
    · refine wpAny_bind (?_ : wpAny (model prog w) A (if (!t.led && !es.isEmpty) = true then unsupported "set:maker-not-led" else pure ()) _ E s)
      rw [hle]
      simp only [Bool.not_true, Bool.false_and, Bool.false_eq_true, ↓reduceIte]
      refine wpAny_pure (wpAny_pure ?_)
      rw [hb]
      by_cases hi : i < es.size
      · have hi' : i < t.place.size := by rw [hl.size]; exact hi
        have := h (t.place.getD i 0 + 1) (fun _ _ => below_next hl.rise hi')
        unfold ordOf at this
        rw [hbt] at this
        simp only [Bool.false_eq_true, ↓reduceIte] at this
        rw [Array.getElem?_eq_getElem hi] at this ⊢
        rw [Array.getElem?_eq_getElem hi']
        have e : t.place.getD i 0 = t.place[i] := by simp [Array.getD, hi']
        rw [e] at this
        exact this
      · have := h 0 (fun _ q => absurd q hi)
        unfold ordOf at this
        rw [hbt] at this
        simp only [Bool.false_eq_true, ↓reduceIte] at this
        rw [Array.getElem?_eq_none (Nat.le_of_not_lt hi)] at this ⊢
        exact this
theorem si_next {S I : Addr} {es : Array (Int × Value)} {ep i : Nat} {t : SetTable} {x : Int × Value} {Q : Option Value → Shared → Prop}
    (ho : s.heap.get? S = some (setObj es ep t)) (hl : Led (w.params.followText "set-order") t es.size) (hit : SIter w s.heap I S i es.size ep t) (hx : (ordOf w S ep es)[i]? = some x) (hi : i < es.size)
    (hQ : ∀ h', SIter w h' I S (i + 1) es.size ep t → (∀ b o, b ≠ I → s.heap.get? b = some o → h'.get? b = some o) → Q (some x.2) { s with heap := h' }) :
    wpAny (model prog w) A (pyNext (.ref I)) Q E s := by
  obtain ⟨slot, hI, hslot⟩ := hit
  have hT : s.TypeIs (.ref I) "set_iterator" := ⟨_, hI, rfl⟩
  unfold pyNext
  refine wpAny_bind (wpAny_attempt (wpAny_callSpecial?_slot (name := Str.ofString "__next__") hT slot_si_next
    (wpAny_call_entry slot_si_next hT entry_si_next ?_ (args_si_next _))))
  unfold Builtin.«set_iterator.__next__»
  refine wpAny_bind (m := slotArgs "__next__" 0 _) (wpAny_pure ?_)
  refine wpAny_bind (wpAny_fieldsOf hI rfl ?_)
  dsimp only
  refine wpAny_bind (wpAny_setEntries_of ho rfl hl.fits ?_)
  rw [if_neg (by simp)]
  refine wpAny_bind (setNext_eq ho hl hslot fun slot' hs' => ?_)
  simp only [Int.toNat_natCast] at hs' ⊢
  rw [hx]
  refine wpAny_bind (wpAny_setField hI rfl (by simp) ?_)
  have h1 := Heap.get?_update_self (Obj.mapFields (·.setIfInBounds 0 (rawInt (slot' : Int)))) hI rfl
  refine wpAny_bind (wpAny_setField h1 rfl (by simp [Obj.mapFields]) ?_)
  have h2 := Heap.get?_update_self (Obj.mapFields (·.setIfInBounds 1 (rawInt ((i : Int) + 1)))) h1 rfl
  refine wpAny_pure ⟨x.2, rfl, wpAny_pure (hQ _ ⟨slot', ?_, fun q => hs' q hi⟩ ?_)⟩
  · rw [h2]; rfl
  · intro b o hb e
    exact (Heap.get?_update_other _ _ (Ne.symm hb)).trans ((Heap.get?_update_other _ _ (Ne.symm hb)).trans e)
theorem si_done {S I : Addr} {es : Array (Int × Value)} {ep i : Nat} {t : SetTable} {Q : Option Value → Shared → Prop} (hh : A.handled = none)
    (ho : s.heap.get? S = some (setObj es ep t)) (hl : Led (w.params.followText "set-order") t es.size) (hit : SIter w s.heap I S i es.size ep t) (hx : (ordOf w S ep es)[i]? = none)
    (hQ : ∀ h', (∀ b o, b ≠ I → s.heap.get? b = some o → h'.get? b = some o) → Q none { s with heap := h' }) :
    wpAny (model prog w) A (pyNext (.ref I)) Q E s := by
  obtain ⟨slot, hI, hslot⟩ := hit
  have hT : s.TypeIs (.ref I) "set_iterator" := ⟨_, hI, rfl⟩
  unfold pyNext
  refine wpAny_bind (wpAny_attempt (wpAny_callSpecial?_slot (name := Str.ofString "__next__") hT slot_si_next
    (wpAny_call_entry slot_si_next hT entry_si_next ?_ (args_si_next _))))
  unfold Builtin.«set_iterator.__next__»
  refine wpAny_bind (m := slotArgs "__next__" 0 _) (wpAny_pure ?_)
  refine wpAny_bind (wpAny_fieldsOf hI rfl ?_)
  dsimp only
  refine wpAny_bind (wpAny_setEntries_of ho rfl hl.fits ?_)
  rw [if_neg (by simp)]
  refine wpAny_bind (setNext_eq ho hl hslot fun slot' hs' => ?_)
  simp only [Int.toNat_natCast] at hs' ⊢
  rw [hx]
  refine wpAny_bind (wpAny_setField hI rfl (by simp) ?_)
  show wpAny _ _ (newExc (.type "StopIteration") [] >>= _) _ _ _
  refine wpAny_bind ?_
  simp only [newExc, newTuple]
  refine wpAny_bind (wpAny_newObj_type ?_ (by size_fits))
  refine wpAny_bind (m := firstArgMember _ _) (wpAny_of_eq (a := Value.none) (by first | rfl | (simp only [firstArgMember]; rfl)) ?_)
  refine wpAny_newObj_type ?_ (by size_fits)
  simp only [raiseNew]
  refine wpAny_bind (wpAny_handled ?_)
  rw [show A.in1.handled = none from hh]
  refine wpAny_bind (wpAny_pure (wpAny_throw ?_))
  refine wpAny_bind (wpAny_isInstance (T := "StopIteration") (b := true) ⟨_, Heap.get?_push_size _ rfl, rfl⟩ isSubtype_stop ?_)
  have hEB := (((Heap.SameBut.update s.heap I (Obj.mapFields (·.setIfInBounds 2 Value.none))).extBut.push { cls := .type "tuple", data := .seq ([] : List Value).toArray })).push
  exact wpAny_pure (hQ _ (hEB _))
theorem set_hint {r : Addr} {Q : Bool → Shared → Prop} (hT : s.TypeIs (.ref r) "set") (h : Q false s) : wpAny (model prog w) A (Builtin.List.listLengthHint (.ref r)) Q E s := by
  unfold Builtin.List.listLengthHint
  refine wpAny_bind (wpAny_specialOf hT PySem.F.slot_set_len.lookup ?_)
  generalize hid : ("set.__len__" : String) = id0
  wp_delta
  rw [show splitId id0 = some ("set", "__len__") from by subst hid; decide +kernel]
  subst hid
  refine wpAny_bind (wpAny_isInstance (T := "set") (b := true) hT (by rw [isSubtype_type]; kernel_rfl) ?_)
  refine wpAny_ite_split (fun hab => absurd hab (by decide)) (fun _ => ?_)
  refine wpAny_ite_split (fun _ => ?_) (fun hab => absurd (by decide +kernel) hab)
  refine wpAny_bind (wpAny_typeOf hT ?_)
  exact wpAny_pure h
theorem set_drawn {S : Addr} {es : Array (Int × Value)} {ep : Nat} {t : SetTable} {Q : Bool → Shared → Prop} (ho : s.heap.get? S = some (setObj es ep t)) (hl : Led (w.params.followText "set-order") t es.size) (h : Q false s) :
    wpAny (model prog w) A (setDrawn S) Q E s := by
  unfold setDrawn
  refine wpAny_bind (wpAny_setState_of ho rfl hl.fits ?_)
  dsimp only
  refine wpAny_bind (byText_eq ?_)
  have hpl : t.plain = true := hl.plain
  refine wpAny_pure ?_
  have : (!(w.params.followText "set-order") && (!t.plain && decide (es.size > 1))) = false := by rw [hpl]; simp
  exact this ▸ h
theorem set_iter {S : Addr} {es : Array (Int × Value)} {ep : Nat} {t : SetTable} {Q : Value → Shared → Prop} (ho : s.heap.get? S = some (setObj es ep t)) (hl : Led (w.params.followText "set-order") t es.size)
    (h : Q (.ref s.heap.objs.size) { s with heap := s.heap.push { cls := .type "set_iterator", data := .fields #[.int 0 0, .int 0 0, .ref S, .int es.size 0, .int ep 0] } }) :
    wpAny (model prog w) A (pyIter (.ref S)) Q E s := by
  have hT : s.TypeIs (.ref S) "set" := ⟨_, ho, rfl⟩
  refine wpAny_pyIter_slot hT PySem.F.slot_set_iter (wpAny_call_entry PySem.F.slot_set_iter hT entry_set_iter ?_ (PySem.F.args_set_iter_1 _))
  unfold Builtin.«frozenset.__iter__»
  refine wpAny_bind (m := Builtin.Frozenset.slot0 "__iter__" _) (wpAny_pure ?_)
  refine wpAny_bind (wpAny_bind (wpAny_setEntries_of ho rfl hl.fits (wpAny_pure ?_)))
  refine wpAny_bind (set_drawn ho hl ?_)
  simp only [Bool.false_eq_true, ↓reduceIte]
  refine wpAny_bind (wpAny_pure ?_)
  refine wpAny_bind (wpAny_setEpoch_of ho rfl hl.fits ?_)
  refine wpAny_bind (wpAny_newObj_type (wpAny_pure ⟨_, rfl, "set_iterator", _, ⟨_, Heap.get?_push_size _ rfl, rfl⟩, slot_si_next.lookup, h⟩))
theorem si_self {S I : Addr} {i n ep : Nat} {t : SetTable} {Q : Value → Shared → Prop} (hit : SIter w s.heap I S i n ep t) (h : Q (.ref I) s) : wpAny (model prog w) A (pyIter (.ref I)) Q E s := by
  obtain ⟨slot, hI, _⟩ := hit
  have hT : s.TypeIs (.ref I) "set_iterator" := ⟨_, hI, rfl⟩
  refine wpAny_pyIter_slot hT slot_si_iter (wpAny_call_entry slot_si_iter hT entry_si_iter ?_ (args_si_iter _))
  show wpAny _ _ (ret (.ref I)) _ _ s
  exact wpAny_pure ⟨_, rfl, "set_iterator", _, hT, slot_si_next.lookup, h⟩
theorem ord_size {S : Addr} {ep : Nat} {es : Array (Int × Value)} : (ordOf w S ep es).size = es.size := by
  unfold ordOf
  split
  · have := (pick_perm (w.params.setOrder S ep) es).length_eq
    simpa using this
  · rfl
theorem ord_perm {S : Addr} {ep : Nat} {es : Array (Int × Value)} : (ordOf w S ep es).toList.Perm es.toList := by
  unfold ordOf
  split
  · exact pick_perm _ _
  · exact .refl _
theorem walks_set (hh : A.handled = none) (I S : Addr) (hne : S ≠ I) (es : Array (Int × Value)) (ep : Nat) (t : SetTable) (hl : Led (w.params.followText "set-order") t es.size) :
    Walks prog w A I [I, S] [I] es.size (fun i v => ∃ x, (ordOf w S ep es)[i]? = some x ∧ v = x.2) (fun i h => SIter w h I S i es.size ep t ∧ h.get? S = some (setObj es ep t)) where
  sub := fun b hb => by simp at hb; simp [hb]
  frame := fun _ _ _ st hk => ⟨by obtain ⟨sl, a, b⟩ := st.1; exact ⟨sl, hk I (by simp) _ a, b⟩, hk S (by simp) _ st.2⟩
  item := fun i s Q E hi st hQ => by
    have hx : (ordOf w S ep es)[i]? = some ((ordOf w S ep es)[i]'(by rw [ord_size]; exact hi)) := Array.getElem?_eq_getElem _
    refine si_next st.2 hl st.1 hx hi fun h' hit' hk => ?_
    exact hQ _ h' s.toks ⟨_, hx, rfl⟩ ⟨hit', hk S _ hne st.2⟩ fun b o hb e => hk b o (fun h => hb (by simp [h])) e
  done := fun s Q E st hQ => si_done hh st.2 hl st.1 (Array.getElem?_eq_none (by rw [ord_size]; exact Nat.le_refl _)) fun h' he' => hQ h' s.toks fun b o hb e => he' b o (fun h => hb (by simp [h])) e
  self := fun _ _ _ _ st hQ => si_self st.1 hQ
theorem src_set (S : Addr) (es : Array (Int × Value)) (ep : Nat) (t : SetTable) (hl : Led (w.params.followText "set-order") t es.size) :
    KdlSrc prog w "set" S S es.size (fun i v => ∃ x, (ordOf w S ep es)[i]? = some x ∧ v = x.2) (fun h => h.get? S = some (setObj es ep t)) where
  type := fun s h => ⟨_, h, rfl⟩
  there := fun h e => ⟨Heap.lt_size e, Heap.lt_size e⟩
  keep := fun h h' e hk => hk S (.inl rfl) _ e
  notList := by decide
  notTuple := by decide
  hint := fun A E s Q h hq => set_hint ⟨_, h, rfl⟩ hq
  iter := fun A s hh ho => ⟨{ cls := .type "set_iterator", data := .fields #[.int 0 0, .int 0 0, .ref S, .int es.size 0, .int ep 0] }, _,
    fun E Q h => set_iter ho hl h, walks_set hh _ S (Nat.ne_of_lt (Heap.lt_size ho)) es ep t hl,
    ⟨0, Heap.get?_push_size _ rfl, fun _ => below_zero hl.rise⟩, Heap.get?_push_of_some _ ho⟩
end
end
/-! part WuSetE -/
noncomputable section
section
variable {prog : Program} {w : World} {A : Around} {E : Value → Shared → Prop} {s : Shared} {h₀ : Heap} {L : Addr} {m : Str → Option Value} {news : List (Addr × Obj)}
/-- an object that is a set of the ints σ -/
def OSet (prog : Program) (w : World) (o : Obj) (σ : List Int) : Prop := ∃ es ep t, o = setObj es ep t ∧ ElemsOf (IK prog w) es.toList ∧ KeysOf' prog w es.toList σ ∧ es.size = σ.length ∧ Led (w.params.followText "set-order") t σ.length
theorem firstMet_nodup (val : Nat → Int) : ∀ i, (firstMet val i).Nodup
  | 0 => by rw [firstMet_zero]; exact .nil
  | i + 1 => by
    rw [firstMet_succ]; unfold step_dedup
    split
    · exact firstMet_nodup val i
    · rename_i h
      rw [List.nodup_append]
      refine ⟨firstMet_nodup val i, by simp, fun a ha b hb => ?_⟩
      rw [List.mem_singleton] at hb
      subst hb
      intro e
      exact h (List.any_eq_true.mpr ⟨a, ha, by rw [beq_iff_eq]; exact e⟩)
theorem firstMet_mem (val : Nat → Int) (i : Nat) (k : Int) : k ∈ firstMet val i ↔ ∃ j, j < i ∧ val j = k := by
  have := firstMet_any val i k
  constructor
  · intro h
    have h1 : ((firstMet val i).any (· == k)) = true := List.any_eq_true.mpr ⟨k, h, beq_self_eq_true k⟩
    rw [this] at h1
    obtain ⟨x, hx, e⟩ := List.any_eq_true.mp h1
    obtain ⟨j, hj, rfl⟩ := List.mem_map.mp hx
    exact ⟨j, List.mem_range.mp hj, by simpa using e⟩
  · rintro ⟨j, hj, rfl⟩
    have h1 : (((List.range i).map val).any (· == val j)) = true := List.any_eq_true.mpr ⟨val j, List.mem_map.mpr ⟨j, List.mem_range.mpr hj, rfl⟩, beq_self_eq_true _⟩
    rw [← this] at h1
    obtain ⟨x, hx, e⟩ := List.any_eq_true.mp h1
    rw [beq_iff_eq] at e
    exact e ▸ hx
theorem set_of_list {l : Addr} {vs : List Value} {ns : List Int} {Q : Value → Shared → Prop} (F : Fr h₀ L s.heap m) (N : News h₀ L s.heap news)
    (hh : A.handled = none) (hl : s.heap.IsList l vs.toArray) (hi : IntsAre vs ns) (hb : ns.length < 64)
    (h : ∀ D h' (tk : Nat) o σ, Fr h₀ L h' m → News h₀ L h' ((D, o) :: news) → (∀ q ∈ news, q.1 ≠ D) → OSet prog w o σ → σ.Nodup → σ.length ≤ ns.length → (∀ k, k ∈ σ ↔ k ∈ ns) →
      Q (.ref D) { s with heap := h', toks := tk }) :
    wpAny (model prog w) A (call (.type "set") [.ref l]) Q E s := by
  have hvn : vs.length = ns.length := IntsAre.length hi
  have hsz : vs.toArray.size = vs.length := List.size_toArray
  refine call_set (items := vs.toArray) (ns := ns) hh hl (by simpa using hi) (by rw [hsz]; omega) fun h' tk es hS hk => ?_
  rw [hsz] at hS
  obtain ⟨ep, t, ho, hel, hmem, hn, hlt⟩ := hS
  obtain ⟨oL, _, _, hL, _⟩ := F.ns
  have hLlt : L < s.heap.objs.size := Heap.lt_size hL
  refine h s.heap.objs.size h' tk _ (firstMet (fun i => ns.getD i 0) vs.length) ⟨F.ns.at' fun o' e => hk L o' hLlt e, fun b o' e => hk b o' (Heap.lt_size (F.keep b o' e)) (F.keep b o' e), F.above⟩ (fun p hp => ?_) (fun q hq => Nat.ne_of_lt (Heap.lt_size (N q hq).1)) ⟨es, ep, t, rfl, hel, hmem, hn, hlt⟩ (firstMet_nodup _ _) ?_ ?_
  · rcases List.mem_cons.mp hp with rfl | hp
    · refine ⟨ho, Nat.ne_of_gt hLlt, ?_⟩
      cases hq : h₀.get? s.heap.objs.size with
      | none => rfl
      | some o' => exact absurd (Heap.lt_size (F.keep _ _ hq)) (Nat.lt_irrefl _)
    · exact ⟨hk _ _ (Heap.lt_size (N p hp).1) (N p hp).1, (N p hp).2.1, (N p hp).2.2⟩
  · have := firstMet_length_le (fun i => ns.getD i 0) vs.length; omega
  · intro k
    rw [firstMet_mem]
    constructor
    · rintro ⟨j, hj, rfl⟩
      rw [hvn] at hj
      simp [List.getD, hj]
    · intro hm
      obtain ⟨j, hj, e⟩ := List.getElem_of_mem hm
      exact ⟨j, by omega, by simp [List.getD, hj, e]⟩
def keyOf : Value → Int
  | .int n _ => n
  | _ => 0
theorem ints_of : ∀ {vs : List Value}, (∀ v ∈ vs, ∃ k, Value.isInt k v = true) → IntsAre vs (vs.map keyOf)
  | [], _ => .nil
  | v :: vs, h => by
    obtain ⟨k, hk⟩ := h v (.head _)
    obtain ⟨t, rfl⟩ := Value.isInt_shape hk
    exact .cons k t (ints_of fun x hx => h x (.tail _ hx))
theorem pair_lt : ∀ {l : List Int}, l.Pairwise (· ≤ ·) → l.Nodup → l.Pairwise (· < ·)
  | [], _, _ => .nil
  | a :: l, h, hn => by
    obtain ⟨h1, h2⟩ := List.pairwise_cons.mp h
    obtain ⟨n1, n2⟩ := List.nodup_cons.mp hn
    refine List.pairwise_cons.mpr ⟨fun b hb => ?_, pair_lt h2 n2⟩
    have := h1 b hb
    rcases Int.lt_or_eq_of_le this with q | q
    · exact q
    · exact absurd (q ▸ hb) n1
theorem nodup_of_cover {l σ : List Int} (hn : σ.Nodup) (hs : ∀ k ∈ σ, k ∈ l) (hl : l.length = σ.length) : l.Nodup := by
  apply Classical.byContradiction
  intro hno
  have hd := nodup_le (l' := l.eraseDups) hn (fun k hk => List.mem_eraseDups.mpr (hs k hk))
  have : ∀ l : List Int, ¬ l.Nodup → l.eraseDups.length < l.length := by
    intro l
    induction hk : l.length using Nat.strongRecOn generalizing l with
    | _ n ih =>
      intro hl
      cases l with
      | nil => exact absurd .nil hl
      | cons a l =>
        rw [List.eraseDups_cons, List.length_cons] at *
        have hfl : (l.filter fun b => !b == a).length ≤ l.length := List.length_filter_le _ _
        by_cases ha : a ∈ l
        · have h1 : (l.filter fun b => !b == a).length < l.length := by
            rw [List.length_filter_lt_length_iff_exists]
            exact ⟨a, ha, by simp⟩
          have h2 : ∀ l : List Int, l.eraseDups.length ≤ l.length := by
            intro l
            induction hk : l.length using Nat.strongRecOn generalizing l with
            | _ n ih =>
              cases l with
              | nil => simp
              | cons a l =>
                rw [List.eraseDups_cons, List.length_cons]
                have hfl : (l.filter fun b => !b == a).length ≤ l.length := List.length_filter_le _ _
                have := ih (l.filter fun b => !b == a).length (by simp at hk; omega) _ rfl
                simp at hk; omega
          have := h2 (l.filter fun b => !b == a)
          omega
        · have hfe : (l.filter fun b => !b == a) = l := List.filter_eq_self.mpr fun b hb => by
            simp only [Bool.not_eq_true', beq_eq_false_iff_ne]
            intro e; exact ha (e ▸ hb)
          rw [hfe]
          have := ih l.length (by omega) l rfl (fun q => hl (List.nodup_cons.mpr ⟨ha, q⟩))
          omega
  have := this l hno
  omega
theorem sorted_set {S : Addr} {o : Obj} {σ : List Int} {Q : Value → Shared → Prop} (F : Fr h₀ L s.heap m) (N : News h₀ L s.heap news) (hh : A.handled = none)
    (hS : s.heap.get? S = some o) (ho : OSet prog w o σ) (hnd : σ.Nodup) (hb : σ.length < 64)
    (h : ∀ D h' (tk : Nat) vs ns c, Fr h₀ L h' m → News h₀ L h' ((D, PySem.W.listOf (List.toArray vs) c) :: news) → (∀ q ∈ news, q.1 ≠ D) → IntsAre vs ns → ns.Pairwise (· < ·) → (∀ k, k ∈ ns ↔ k ∈ σ) →
      Q (.ref D) { s with heap := h', toks := tk }) :
    wpAny (model prog w) A (call (.builtin "sorted") [.ref S]) Q E s := by
  obtain ⟨es, ep, t, rfl, hel, hmem, hn, hl⟩ := ho
  rw [← hn] at hl
  refine kdu_sorted (src_set S es ep t hl) hh F N hS (by rw [hn]; exact fits_of_scanBound (by unfold scanBound; omega)) fun D h' tk vs F' N' l1 hlen hv => ?_
  have hvs : vs = (ordOf w S ep es).toList.map (·.2) := by
    apply List.ext_getElem?
    intro i
    by_cases hi : i < vs.length
    · obtain ⟨x, hx, e⟩ := hv i _ (List.getElem?_eq_getElem hi)
      rw [List.getElem?_eq_getElem hi, List.getElem?_map, Array.getElem?_toList, hx, e]; rfl
    · rw [List.getElem?_eq_none (by omega), List.getElem?_eq_none (by rw [List.length_map, Array.length_toList, ord_size]; omega)]
  have hperm : vs.Perm (es.toList.map (·.2)) := by rw [hvs]; exact ord_perm.map _
  have hints : ∀ v ∈ vs, ∃ k, Value.isInt k v = true := fun v hv => by
    obtain ⟨e, he, rfl⟩ := List.mem_map.mp (hperm.mem_iff.mp hv)
    obtain ⟨k, hk, _⟩ := (hel e he).1
    exact ⟨k, hk⟩
  have hI := ints_of hints
  have hmem' : ∀ k, k ∈ vs.map keyOf ↔ k ∈ σ := fun k => by
    rw [hmem k, List.mem_map]
    constructor
    · rintro ⟨v, hv, rfl⟩
      obtain ⟨e, he, rfl⟩ := List.mem_map.mp (hperm.mem_iff.mp hv)
      refine ⟨e, he, ?_⟩
      obtain ⟨k, hk, _⟩ := (hel e he).1
      obtain ⟨t, e1⟩ := Value.isInt_shape hk
      rw [e1]; exact intKind_is _ _ _ t
    · rintro ⟨e, he, hk⟩
      obtain ⟨t, e1⟩ := Value.isInt_shape hk
      exact ⟨e.2, hperm.mem_iff.mpr (List.mem_map.mpr ⟨e, he, rfl⟩), by rw [e1]; rfl⟩
  have hlen' : (vs.map keyOf).length = σ.length := by rw [List.length_map, hlen, hn]
  have hnd' : (vs.map keyOf).Nodup := nodup_of_cover hnd (fun k hk => (hmem' k).mpr hk) hlen'
  have hoL : h'.get? D = some (seqObj "list" vs.toArray 0) := (N' _ (.head _)).1
  refine wpAny_call_entry slot_list_sort ⟨_, hoL, rfl⟩ entry_list_sort (list_sort_tree hoL hI (by rw [hlen, hn]; exact hb) fun out ns' a1 a2 a3 => ⟨_, rfl, ?_⟩) (args_list_sort _)
  obtain ⟨c, hc⟩ := sortedHeap_at (out := out) hoL
  have hold : ∀ b o, b ≠ D → h'.get? b = some o → (sortedHeap h' D vs out).get? b = some o := fun b o hb e => (sortedHeap_old hb (Heap.lt_size e)).trans e
  have hLD : L ≠ D := Ne.symm (N' _ (.head _)).2.1
  have hbD : ∀ b o, h₀.get? b = some o → b ≠ D := fun b o e q => by rw [q, (N' _ (.head _)).2.2] at e; cases e
  refine h D (sortedHeap h' D vs out) tk out.toList ns' c ⟨F'.ns.at' fun o e => hold L o hLD e, fun b o e => hold b o (hbD b o e) (F'.keep b o e), F'.above⟩ (fun p hp => ?_) (fun q hq => Nat.ne_of_lt (l1 q hq)) a1 (pair_lt a3 (a2.nodup_iff.mpr hnd')) (fun k => by rw [a2.mem_iff]; exact hmem' k)
  rcases List.mem_cons.mp hp with rfl | hp
  · exact ⟨hc, (N' _ (.head _)).2⟩
  · exact ⟨hold _ _ (Nat.ne_of_lt (l1 p hp)) (N' p (.tail _ hp)).1, (N' p (.tail _ hp)).2⟩
end
end
/-! part WuLam -/
noncomputable section
theorem reset_WuLam : True := by
  w_top off
  k_with_none
  (k_with "MY got" => (intro _ _ _ _ _ _; (try dsimp only); (try k_sweep)))
  (k_with "MY gotb" => (intro _ _ _ _ _; (try dsimp only); (try k_sweep)))
  (k_with "MY abs" => (refine abs_post ?_; intro _ _))
  (k_with "MY end" => ((fail_if_success (with_reducible show wpAny _ _ _ _ _ _)); (first | with_reducible refine TSeq.next (by assumption) _ ?_ | with_reducible refine TSeq.ret (by assumption) _ _ ?_ | with_reducible refine AbsQ.of (by assumption) _ _ ?_); (try dsimp only)))
  (k_with "execs cons" => (k_here; (try k_gentoks); (try k_made); (with_reducible refine seq_abs ?_); intro _ _; (try dsimp only)))
  (k_with "MY enter" => (
  intro _ _ _ _ _ _ _ _ _ _ _ _ _ _ _ _ _
  (try dsimp only)
  k_fold
  (try k_extra "MY abs")))
  (k_with "MY stop" => (
  (fail_if_success (with_reducible show Exists _));
  (fail_if_success (with_reducible show LCt.CompSrcT _ _ _ _ _ _ _ _ _ _ _ _ _ _ _));
  (fail_if_success (with_reducible show LCg.CompSrc _ _ _ _ _ _ _ _ _ _ _ _ _ _));
  (first | (with_reducible show Frag.In _ _ ∧ _) | (with_reducible show FnAt _ _ ∧ _) | (fail_if_success (with_reducible show And _ _)));
  (fail_if_success (with_reducible show wpAny _ _ (eval (Expr.ListComp _ _ _ _) _) _ _ _));
  (fail_if_success (with_reducible show wpAny _ _ (pyIter _) _ _ _));
  (fail_if_success (with_reducible show wpAny _ _ (exec (Stmt.Assign _ (Expr.ListComp _ _ _ _) _) _) _ _ _));
  (fail_if_success (with_reducible show wpAny _ _ (exec (Stmt.While _ _ _ _) _) _ _ _));
  (fail_if_success (with_reducible show wpAny _ _ (exec (Stmt.For _ _ _ _ _) _) _ _ _))))
  (k_with "MY one" => first
  | k_extra "MY end"
  | (k_unfold; (try dsimp only))
  | walk1
  | (dsimp only; walk1)
  | (dsimp only; k_unfold; (try dsimp only))
  | (leave1; walk_say "STEP leave1"; try dsimp only)
  | fail "no step")
  (k_with "MY steps" => w_strict (repeat' (k_extra "MY stop"; k_extra "MY one")))
  (k_with "MY at" => (exact At.of (by k_asm) (by k_asm) (by k_asm) (by k_asm) (by exact rfl) (by exact rfl) (by exact rfl) (by exact rfl) (by k_extra "MY room") (by k_extra "MY room")))
  (k_with "MY room" => first | decide | ((try dsimp only [Around.deeper]); first | with_reducible exact roomD (by assumption) (by decide) | with_reducible exact roomD2 (by assumption) (by decide) | with_reducible exact roomU (by assumption) (by decide) | with_reducible exact roomU2 (by assumption) (by decide) | omega))
  (k_with "MY stage" => (
  refine ⟨_, _, _, _, _, _, _, _, _, _, _, _, _, _, _, by k_is, ?_⟩))
  (k_with "MY steps2" => w_strict (repeat' (k_extra "MY stop"; (fail_if_success (with_reducible show wpAny _ _ (execs (Stmt.For _ _ _ _ _ :: _) _) _ _ _)); k_extra "MY one")))
  (k_with "MY sub" => first | exact sub_nil | exact sub_cons (by k_mem) (by k_extra "MY sub"))
  (k_with "MY off" => first | exact trivial | exact And.intro (by k_ne) (by k_extra "MY off"))
  trivial
section
variable {prog : Program} {w : World} {p : Program} {loose : List Str} {mean : ExcName → Option Value} {mg mb : Str → Option Value}
theorem enter_lam {A : Around} {dk : Nat} {s : Shared} {P : Heap → Value → Heap → Prop} {name qual : Str} {params : Arguments} {body : PySem.Expr} {scope : Scope} {cl : List (Str × Addr)} {pm ctv : Value} {c' f : Addr} {args : List Value} {binds : List (Str × Value)}
    (hat : At w p loose mean mg mb A (dk + 1) s.heap)
    (ho : s.heap.get? f = some (kla_obj name qual params body scope cl pm c' ctv)) (hcd : s.heap.CodeRec (.ref c') qual)
    (hbind : bindArgs (kla_fn name qual params body scope cl pm (.ref c') ctv) ⟨args, []⟩ = pure binds) (hloc : ∀ y ∈ binds, scope.names.lookup y.1 = some .local)
    (hco : scope.isCoroutine = false) (hgen : scope.isGenerator = false) (hk : scope.kind = .function) (hcell : ∀ x ∈ scope.names, x.2 ≠ .cell)
    (h : ∀ g L' h₁ env outer base dp un gd, s.heap.StaysIn g → Fr g L' h₁ (fun y => binds.reverse.lookup y) → News g L' h₁ [] → Below { handled := none, depth := dp, frames := some (env :: outer), guards := gd, units := un : Around } base (env :: outer) g → (Mine.hd.heap_39 w.params).In g → Top p loose mean mg mb g →
      dp + dk + 1 < recursionLimit → un + 8 * dk + 108 < cLine →
      wpAny (model prog w) (Around.deeper { handled := none, depth := dp, frames := some (env :: outer), guards := gd, units := un : Around } (envX qual scope L' f (.ref c') cl)) (eval body (envX qual scope L' f (.ref c') cl))
        (fun v s' => CEnd g s P v s')
        (fun _ _ => False)
        { s with heap := h₁, toks := s.toks + binds.length }) :
    Ctr prog w A s f args P := by
  obtain ⟨hh, hd, hu, A₀, base, env, outer, h₀, L, m, B, F, X, T, hA, hf, hke⟩ := hat
  obtain ⟨ah, ad, af, ag, au⟩ := A
  simp only at hh hd hu hA
  subst hh hA
  refine wpAny_call ?_
  obtain ⟨FG, BG, st, lv⟩ := groundX (A := { handled := none, depth := ad, frames := some (env :: outer), guards := ag, units := au }) (R := fun r s' => match r with | .ok (.ret v) => Grown s s' ∧ P s.heap v s'.heap | .ok _ => False | .error _ => False) B F (News.nil (h₀ := h₀) (h := s.heap) (L := L)) rfl hf hke
  have X' := X.keeps F.keep
  have T' : Top p loose mean mg mb s.heap := T.keeps F.keep
  refine kla_callFunE (by show ad < _; omega) ho rfl hco hgen rfl hcd ?_
  rw [hbind]
  refine wpAny_pure (wpAny_newFunctionEnv hcell hloc (fun h₁ hns hsb => ⟨T'.nolimit.fresh _ hsb, ?_⟩) hk)
  show codeAny _ _ (.expr body (envX qual scope s.heap.objs.size f (.ref c') cl)) _ _
  have hk₁ : ∀ b o, s.heap.get? b = some o → h₁.get? b = some o := fun b o e => hsb.extBut b o (Nat.ne_of_lt (Heap.lt_size e)) (Heap.get?_push_of_some _ e)
  refine kla_codeExpr (wpAny_mono (h s.heap s.heap.objs.size h₁ env outer base ad au ag (fun _ _ e => e) ⟨hns, fun b o e => hk₁ b o e, Nat.le_refl _⟩ News.nil BG X' T' (by omega) (by omega)) (fun v s' q => ?_) (fun _ _ x => x.elim))
  obtain ⟨L'', m'', h', tk', rfl, F'', q⟩ := q
  exact lv _ _ (leaveK_ F'' News.nil fun _ _ => ⟨⟨h', tk', rfl, fun b o e => F''.keep b o e⟩, q⟩)
end
end
/-! part WuLam2 -/
noncomputable section
theorem reset_WuLam2 : True := by
  w_top off
  k_with_none
  (k_with "MY got" => (intro _ _ _ _ _ _; (try dsimp only); (try k_sweep)))
  (k_with "MY gotb" => (intro _ _ _ _ _; (try dsimp only); (try k_sweep)))
  (k_with "MY abs" => (refine abs_post ?_; intro _ _))
  (k_with "MY end" => ((fail_if_success (with_reducible show wpAny _ _ _ _ _ _)); (first | with_reducible refine TSeq.next (by assumption) _ ?_ | with_reducible refine TSeq.ret (by assumption) _ _ ?_ | with_reducible refine AbsQ.of (by assumption) _ _ ?_); (try dsimp only)))
  (k_with "execs cons" => (k_here; (try k_gentoks); (try k_made); (with_reducible refine seq_abs ?_); intro _ _; (try dsimp only)))
  (k_with "MY enter" => (
  intro _ _ _ _ _ _ _ _ _ _ _ _ _ _ _ _ _
  (try dsimp only)
  k_fold
  (try k_extra "MY abs")))
  (k_with "MY stop" => (
  (fail_if_success (with_reducible show Exists _));
  (fail_if_success (with_reducible show LCt.CompSrcT _ _ _ _ _ _ _ _ _ _ _ _ _ _ _));
  (fail_if_success (with_reducible show LCg.CompSrc _ _ _ _ _ _ _ _ _ _ _ _ _ _));
  (first | (with_reducible show Frag.In _ _ ∧ _) | (with_reducible show FnAt _ _ ∧ _) | (fail_if_success (with_reducible show And _ _)));
  (fail_if_success (with_reducible show wpAny _ _ (eval (Expr.ListComp _ _ _ _) _) _ _ _));
  (fail_if_success (with_reducible show wpAny _ _ (pyIter _) _ _ _));
  (fail_if_success (with_reducible show wpAny _ _ (exec (Stmt.Assign _ (Expr.ListComp _ _ _ _) _) _) _ _ _));
  (fail_if_success (with_reducible show wpAny _ _ (exec (Stmt.While _ _ _ _) _) _ _ _));
  (fail_if_success (with_reducible show wpAny _ _ (exec (Stmt.For _ _ _ _ _) _) _ _ _))))
  (k_with "MY one" => first
  | k_extra "MY end"
  | (k_unfold; (try dsimp only))
  | walk1
  | (dsimp only; walk1)
  | (dsimp only; k_unfold; (try dsimp only))
  | (leave1; walk_say "STEP leave1"; try dsimp only)
  | fail "no step")
  (k_with "MY steps" => w_strict (repeat' (k_extra "MY stop"; k_extra "MY one")))
  (k_with "MY at" => (exact At.of (by k_asm) (by k_asm) (by k_asm) (by k_asm) (by exact rfl) (by exact rfl) (by exact rfl) (by exact rfl) (by k_extra "MY room") (by k_extra "MY room")))
  (k_with "MY room" => first | decide | ((try dsimp only [Around.deeper]); first | with_reducible exact roomD (by assumption) (by decide) | with_reducible exact roomD2 (by assumption) (by decide) | with_reducible exact roomU (by assumption) (by decide) | with_reducible exact roomU2 (by assumption) (by decide) | omega))
  (k_with "MY stage" => (
  refine ⟨_, _, _, _, _, _, _, _, _, _, _, _, _, _, _, by k_is, ?_⟩))
  (k_with "MY steps2" => w_strict (repeat' (k_extra "MY stop"; (fail_if_success (with_reducible show wpAny _ _ (execs (Stmt.For _ _ _ _ _ :: _) _) _ _ _)); k_extra "MY one")))
  (k_with "MY sub" => first | exact sub_nil | exact sub_cons (by k_mem) (by k_extra "MY sub"))
  (k_with "MY off" => first | exact trivial | exact And.intro (by k_ne) (by k_extra "MY off"))
  trivial
/-- the shape x[i] - i, its places anywhere -/
abbrev lamBody (p1 p2 p3 p4 p5 : Pos) : PySem.Expr := .BinOp (.Subscript (.Name (Str.ofString "left") p1) (.Name (Str.ofString "i") p2) p3) .Sub (.Name (Str.ofString "i") p4) p5
abbrev lamParams (p : Pos) : PySem.Arguments := ⟨[], [⟨Str.ofString "i", none, p⟩], none, [], [], none, []⟩
abbrev lamScope : PySem.Scope := { kind := .function, names := [(Str.ofString "i", .local), (Str.ofString "left", .free)], isGenerator := false, isCoroutine := false }
theorem nameX_G {M : Model} {A : Around} {E : Value → Shared → Prop} {s : Shared} {h₀ : Heap} {L a : Addr} {m : Str → Option Value} {cn : Str} {cs : Scope} {ccd : Value} {cl : List (Str × Addr)} {x : Str} {pos : Pos} {v : Value} {Q : Value → Shared → Prop} {c : Addr} {o : Obj}
    (F : Fr h₀ L s.heap m) (hg : h₀.get? c = some o) (hd : o.data = .cell (some v)) (hc : cl.lookup x = some c) (h : Q v s)
    (hk : cs.kind = .function := by rfl) (hx : (envX cn cs L a ccd cl).kindOf x = some .free := by rfl) (hb : (x == ("__debug__" : Str)) = false := by decide) (hn : (x == ("__classdict__" : Str)) = false := by decide) :
    wpAny M A (eval (.Name x pos) (envX cn cs L a ccd cl)) Q E s := wpAny_Name (wpAny_loadName_free hk hx hc ⟨o, F.keep _ _ hg, hd⟩ h hn) hb
local macro_rules | `(tactic| walk_at "eval Name") => `(tactic| (k_here; first
  | ((with_reducible show wpAny _ _ (eval (PySem.Expr.Name (Str.ofString "left") _) _) _ _ _); refine' nameX_G ?F ?g ?d ?c ?_ ?a ?b ?e ?f; (case a => exact rfl); (case b => exact rfl); (case F => k_asm); (case g => assumption); (case d => assumption); (case c => exact rfl); (case e => decide); (case f => decide))
  | (refine' nameX_L ?F ?g ?_ ?a ?b ?d; (case a => exact rfl); (case b => exact rfl); (case F => k_asm); (case g => exact rfl); (case d => decide))))
theorem lay_lam2_1 : True := by
  (k_with "subscriptTail" => (k_here; (with_reducible show wpAny _ _ (subscriptTail _ _ (Value.ref _) (Value.int _ _)) _ _ _); (refine' item_ints (by k_asm) (by assumption) (by assumption) (by omega) (by omega) (by omega) ?_); intro _))
  trivial
section
variable {prog : Program} {w : World} {p : Program} {loose : List Str} {mean : ExcName → Option Value} {mg mb : Str → Option Value}
theorem lam_c {p0 p1 p2 p3 p4 p5 : Pos} {A : Around} {s : Shared} {name qual : Str} {pm ctv : Value} {c c' f LL : Addr} {oc : Obj} {vs : List Value} {ns : List Int} {j : Int} {t : Tok} (hat : At w p loose mean mg mb A 1 s.heap)
    (ho : s.heap.get? f = some (kla_obj name qual (lamParams p0) (lamBody p1 p2 p3 p4 p5) lamScope [(Str.ofString "left", c)] pm c' ctv)) (hcd : s.heap.CodeRec (.ref c') qual)
    (hc : s.heap.get? c = some oc) (hod : oc.data = .cell (some (.ref LL))) (hl : s.heap.IsList LL vs.toArray) (hi : IntsAre vs ns) (h0 : 0 ≤ j) (h1 : j < ns.length) (hf : ns.length < 2 ^ 50) :
    Ctr prog w A s f [.int j t] (IntV (ns.getD j.toNat 0 - j)) := by
  refine enter_lam (dk := 0) (binds := [(Str.ofString "i", .int j t)]) hat ho hcd rfl (locs rfl) rfl rfl rfl (by decide) ?_
  k_extra "MY enter"
  rename Heap.StaysIn _ _ => st
  have hcg := st _ _ hc
  have hlg := stays_list st hl
  w_strict (walk1; walk1)
  walk_at "eval Name"
  walk_at "eval Name"
  walk_at "subscriptTail"
  walk_at "eval Name"
  k_extra "MY steps"
  exact cend_int (by assumption) rfl
end
end
/-! part WuBisRK -/
noncomputable section
theorem reset_WuBisRK : True := by
  w_top off
  k_with_none
  (k_with "MY got" => (intro _ _ _ _ _ _; (try dsimp only); (try k_sweep)))
  (k_with "MY gotb" => (intro _ _ _ _ _; (try dsimp only); (try k_sweep)))
  (k_with "MY abs" => (refine abs_post ?_; intro _ _))
  (k_with "MY end" => ((fail_if_success (with_reducible show wpAny _ _ _ _ _ _)); (first | with_reducible refine TSeq.next (by assumption) _ ?_ | with_reducible refine TSeq.ret (by assumption) _ _ ?_ | with_reducible refine AbsQ.of (by assumption) _ _ ?_); (try dsimp only)))
  (k_with "execs cons" => (k_here; (try k_gentoks); (try k_made); (with_reducible refine seq_abs ?_); intro _ _; (try dsimp only)))
  (k_with "MY enter" => (
  intro _ _ _ _ _ _ _ _ _ _ _ _ _ _ _ _ _
  (try dsimp only)
  k_fold
  (try k_extra "MY abs")))
  (k_with "MY stop" => (
  (fail_if_success (with_reducible show Exists _));
  (fail_if_success (with_reducible show LCt.CompSrcT _ _ _ _ _ _ _ _ _ _ _ _ _ _ _));
  (fail_if_success (with_reducible show LCg.CompSrc _ _ _ _ _ _ _ _ _ _ _ _ _ _));
  (first | (with_reducible show Frag.In _ _ ∧ _) | (with_reducible show FnAt _ _ ∧ _) | (fail_if_success (with_reducible show And _ _)));
  (fail_if_success (with_reducible show wpAny _ _ (eval (Expr.ListComp _ _ _ _) _) _ _ _));
  (fail_if_success (with_reducible show wpAny _ _ (pyIter _) _ _ _));
  (fail_if_success (with_reducible show wpAny _ _ (exec (Stmt.Assign _ (Expr.ListComp _ _ _ _) _) _) _ _ _));
  (fail_if_success (with_reducible show wpAny _ _ (exec (Stmt.While _ _ _ _) _) _ _ _));
  (fail_if_success (with_reducible show wpAny _ _ (exec (Stmt.For _ _ _ _ _) _) _ _ _))))
  (k_with "MY one" => first
  | k_extra "MY end"
  | (k_unfold; (try dsimp only))
  | walk1
  | (dsimp only; walk1)
  | (dsimp only; k_unfold; (try dsimp only))
  | (leave1; walk_say "STEP leave1"; try dsimp only)
  | fail "no step")
  (k_with "MY steps" => w_strict (repeat' (k_extra "MY stop"; k_extra "MY one")))
  (k_with "MY at" => (exact At.of (by k_asm) (by k_asm) (by k_asm) (by k_asm) (by exact rfl) (by exact rfl) (by exact rfl) (by exact rfl) (by k_extra "MY room") (by k_extra "MY room")))
  (k_with "MY room" => first | decide | ((try dsimp only [Around.deeper]); first | with_reducible exact roomD (by assumption) (by decide) | with_reducible exact roomD2 (by assumption) (by decide) | with_reducible exact roomU (by assumption) (by decide) | with_reducible exact roomU2 (by assumption) (by decide) | omega))
  (k_with "MY stage" => (
  refine ⟨_, _, _, _, _, _, _, _, _, _, _, _, _, _, _, by k_is, ?_⟩))
  (k_with "MY steps2" => w_strict (repeat' (k_extra "MY stop"; (fail_if_success (with_reducible show wpAny _ _ (execs (Stmt.For _ _ _ _ _ :: _) _) _ _ _)); k_extra "MY one")))
  (k_with "MY sub" => first | exact sub_nil | exact sub_cons (by k_mem) (by k_extra "MY sub"))
  (k_with "MY off" => first | exact trivial | exact And.intro (by k_ne) (by k_extra "MY off"))
  trivial
theorem fnAt_up {f : Addr} {g h : Heap} {L : Addr} {m : Str → Option Value} (x : FnAt f g) (F : Fr g L h m) : FnAt f h := let ⟨oc, od, fd, sl, e⟩ := x; ⟨oc, od, fd, sl, F.keep _ _ e⟩
theorem fnAt_st {f : Addr} {g h : Heap} (x : FnAt f g) (S : g.StaysIn h) : FnAt f h := let ⟨oc, od, fd, sl, e⟩ := x; ⟨oc, od, fd, sl, S _ _ e⟩
theorem lay_bisrk_1 : True := by
  (k_with "subscriptTail" => (k_here; (with_reducible show wpAny _ _ (subscriptTail _ _ (Value.ref _) (Value.int _ _)) _ _ _); (refine' item_ints (by k_asm) (by assumption) (by assumption) (by omega) (by omega) (by omega) ?_); intro _))
  (k_with "callWith ref" => (k_here; refine' callWith_F (by exact fnAt_up (by assumption) (by k_asm)) ?_))
  (k_with "FnAt" => (exact fnAt_up (by assumption) (by k_asm)))
  trivial
theorem zs_range {n j : Nat} (h : j < n) : (zs (List.range n)).getD j 0 = (j : Int) := by
  rw [List.getD_eq_getElem?_getD, List.getElem?_map, List.getElem?_eq_getElem (by rw [List.length_range]; exact h)]
  simp
section
variable {prog : Program} {w : World} {p : Program} {loose : List Str} {mean : ExcName → Option Value} {mg mb : Str → Option Value}
theorem bisect_right_key {A : Around} {s : Shared} {l f : Addr} {vs : List Value} {n : Nat} {t : Tok} (hat : At w p loose mean mg mb A 4 s.heap) (hl : s.heap.IsList l vs.toArray) (hi : IntsAre vs (zs (List.range n))) (hf : n < 2 ^ 50) (K : Nat → Int) (hfa : FnAt f s.heap)
    (hkey : ∀ A' (s' : Shared) (j : Nat) (t : Tok), At w p loose mean mg mb A' 1 s'.heap → s.heap.StaysIn s'.heap → j < n → Ctr prog w A' s' f [.int (j : Int) t] (IntV (K j)))
    (hs : ∀ i j, i ≤ j → j < n → K i ≤ K j) :
    CtrK prog w A s 86 [.ref l, .int 0 t] [(Str.ofString "key", .ref f)] (IntV (((List.range n).countP (fun j => decide (K j ≤ 0)) : Nat) : Int)) := by
  refine enter_kw (dk := 3) (binds := [(Str.ofString "a", .ref l), (Str.ofString "x", .int 0 t), (Str.ofString "lo", .int 0 264), (Str.ofString "hi", .none), (Str.ofString "key", .ref f)]) hat (by k_is) (by k_is) (kp_binds hat.kin (by intro S; kernel_rfl)) (locs rfl) rfl rfl rfl (by decide) ?_
  obtain ⟨ns, hns⟩ : ∃ ns, ns = zs (List.range n) := ⟨_, rfl⟩
  have hnl : ns.length = n := by rw [hns, zs_length, List.length_range]
  rw [← hns] at hi
  have hfn : ns.length < 2 ^ 50 := by omega
  walk_at "MY bl"
  rename Fr _ _ _ _ => F1
  rename News _ _ _ _ => N1
  rename Heap.IsList _ l _ => hlg
  rename s.heap.StaysIn _ => stg
  have hfg := fnAt_st hfa stg
  refine While_T (fun i m nx => nx = [] ∧ ∃ (lo hi : Nat) (t1 t2 : Tok), i = hi - lo ∧ m (Str.ofString "lo") = some (.int (lo : Int) t1) ∧ m (Str.ofString "hi") = some (.int (hi : Int) t2) ∧ m (Str.ofString "a") = some (.ref l) ∧ m (Str.ofString "x") = some (.int 0 t) ∧ m (Str.ofString "key") = some (.ref f) ∧ lo ≤ hi ∧ hi ≤ n ∧
    (∀ j, j < lo → K j ≤ 0) ∧ (∀ j, hi ≤ j → j < n → ¬ K j ≤ 0)) (n₀ := n - 0) F1 N1 ?_ ?_ PassesOwn.never
  · rw [← hnl]
    exact ⟨rfl, 0, ns.length, _, _, rfl, rfl, rfl, rfl, rfl, rfl, Nat.zero_le _, Nat.le_refl _, fun j hj => absurd hj (Nat.not_lt_zero _), fun j h1 h2 => absurd h2 (Nat.not_lt.mpr h1)⟩
  · clear F1 N1
    rintro i m₁ nx h₁ tk₁ TW hTW F₁ N₁ ⟨rfl, lo, hi', t1, t2, rfl, e1, e2, e3, e4, e5, b1, b2, q1, q2⟩
    replace F₁ := expose5 F₁ e1 e2 e3 e4 e5
    have hmid : Int.fdiv ((lo : Int) + (hi' : Int)) 2 = (((lo + hi') / 2 : Nat) : Int) := by rw [Int.fdiv_eq_ediv_of_nonneg _ (by omega)]; omega
    have hm2 : (((lo + hi') / 2 : Nat) : Int).toNat = (lo + hi') / 2 := Int.toNat_natCast _
    k_extra "MY steps"
    · rename Fr _ _ _ _ => F3
      have hj : (lo + hi') / 2 < n := by omega
      rw [hmid, hm2, hns, zs_range hj]
      rw [hmid] at F3
      refine use_int (hkey _ _ _ _ (At.of (p := p) (loose := loose) (mean := mean) (mg := mg) (mb := mb) (by assumption) F3 (by assumption) (by assumption) rfl rfl rfl rfl (by k_extra "MY room") (by k_extra "MY room")) ?_ hj) F3 News.nil ?_
      · intro b o e; exact F3.keep b o (stg b o e)
      clear F3
      intro t9 h9 tk9 st9 F9 N9
      k_extra "MY steps"
      · rename Fr _ _ _ _ => F3
        rename 0 < K _ => hc
        refine hTW ((lo + hi') / 2 - lo) _ _ _ _ (by omega) F3 News.nil ⟨rfl, lo, (lo + hi') / 2, _, _, rfl, rfl, rfl, rfl, rfl, rfl, by omega, by omega, q1, fun j h1 h2 => ?_⟩
        have := hs ((lo + hi') / 2) j (by omega) (by omega)
        omega
      · rename Fr _ _ _ _ => F3
        rename ¬ (0 < K _) => hc
        refine hTW (hi' - ((lo + hi') / 2 + 1)) _ _ _ _ (by omega) F3 News.nil ⟨rfl, (lo + hi') / 2 + 1, hi', _, _, rfl, rfl, rfl, rfl, rfl, rfl, by omega, b2, fun j hj => ?_, q2⟩
        have := hs j ((lo + hi') / 2) (by omega) (by omega)
        omega
    · refine cend_int (by assumption) ?_
      have hlh : lo = hi' := by omega
      subst hlh
      have e : (List.range n).countP (fun j => decide (K j ≤ 0)) = ((List.range n).map K).countP (fun y => decide (y ≤ 0)) := by rw [List.countP_map]; rfl
      have hget : ∀ j, j < n → ((List.range n).map K).getD j 0 = K j := fun j hj => by
        rw [List.getD_eq_getElem?_getD, List.getElem?_map, List.getElem?_eq_getElem (by rw [List.length_range]; exact hj)]; simp
      rw [e, countP_split (k := lo) (by rw [List.length_map, List.length_range]; omega) (fun j hj => by rw [hget j (by omega)]; exact decide_eq_true (q1 j hj)) (fun j h1 h2 => by
        rw [List.length_map, List.length_range] at h2
        rw [hget j h2]; exact decide_eq_false (q2 j h1 h2))]
end
end
/-! part WuGame1 -/
noncomputable section
theorem reset_WuGame1 : True := by
  w_top off
  k_with_none
  (k_with "MY got" => (intro _ _ _ _ _ _; (try dsimp only); (try k_sweep)))
  (k_with "MY gotb" => (intro _ _ _ _ _; (try dsimp only); (try k_sweep)))
  (k_with "MY abs" => (refine abs_post ?_; intro _ _))
  (k_with "MY end" => ((fail_if_success (with_reducible show wpAny _ _ _ _ _ _)); (first | with_reducible refine TSeq.next (by assumption) _ ?_ | with_reducible refine TSeq.ret (by assumption) _ _ ?_ | with_reducible refine AbsQ.of (by assumption) _ _ ?_); (try dsimp only)))
  (k_with "execs cons" => (k_here; (try k_gentoks); (try k_made); (with_reducible refine seq_abs ?_); intro _ _; (try dsimp only)))
  (k_with "MY enter" => (
  intro _ _ _ _ _ _ _ _ _ _ _ _ _ _ _ _ _
  (try dsimp only)
  k_fold
  (try k_extra "MY abs")))
  (k_with "MY stop" => (
  (fail_if_success (with_reducible show Exists _));
  (fail_if_success (with_reducible show LCt.CompSrcT _ _ _ _ _ _ _ _ _ _ _ _ _ _ _));
  (fail_if_success (with_reducible show LCg.CompSrc _ _ _ _ _ _ _ _ _ _ _ _ _ _));
  (first | (with_reducible show Frag.In _ _ ∧ _) | (with_reducible show FnAt _ _ ∧ _) | (fail_if_success (with_reducible show And _ _)));
  (fail_if_success (with_reducible show wpAny _ _ (eval (Expr.ListComp _ _ _ _) _) _ _ _));
  (fail_if_success (with_reducible show wpAny _ _ (pyIter _) _ _ _));
  (fail_if_success (with_reducible show wpAny _ _ (exec (Stmt.Assign _ (Expr.ListComp _ _ _ _) _) _) _ _ _));
  (fail_if_success (with_reducible show wpAny _ _ (exec (Stmt.While _ _ _ _) _) _ _ _));
  (fail_if_success (with_reducible show wpAny _ _ (exec (Stmt.For _ _ _ _ _) _) _ _ _))))
  (k_with "MY one" => first
  | k_extra "MY end"
  | (k_unfold; (try dsimp only))
  | walk1
  | (dsimp only; walk1)
  | (dsimp only; k_unfold; (try dsimp only))
  | (leave1; walk_say "STEP leave1"; try dsimp only)
  | fail "no step")
  (k_with "MY steps" => w_strict (repeat' (k_extra "MY stop"; k_extra "MY one")))
  (k_with "MY at" => (exact At.of (by k_asm) (by k_asm) (by k_asm) (by k_asm) (by exact rfl) (by exact rfl) (by exact rfl) (by exact rfl) (by k_extra "MY room") (by k_extra "MY room")))
  (k_with "MY room" => first | decide | ((try dsimp only [Around.deeper]); first | with_reducible exact roomD (by assumption) (by decide) | with_reducible exact roomD2 (by assumption) (by decide) | with_reducible exact roomU (by assumption) (by decide) | with_reducible exact roomU2 (by assumption) (by decide) | omega))
  (k_with "MY stage" => (
  refine ⟨_, _, _, _, _, _, _, _, _, _, _, _, _, _, _, by k_is, ?_⟩))
  (k_with "MY steps2" => w_strict (repeat' (k_extra "MY stop"; (fail_if_success (with_reducible show wpAny _ _ (execs (Stmt.For _ _ _ _ _ :: _) _) _ _ _)); k_extra "MY one")))
  (k_with "MY sub" => first | exact sub_nil | exact sub_cons (by k_mem) (by k_extra "MY sub"))
  (k_with "MY off" => first | exact trivial | exact And.intro (by k_ne) (by k_extra "MY off"))
  trivial
section
variable {prog : Program} {w : World} {A : Around} {s : Shared} {env : Env} {h₀ : Heap} {Q : Flow → Shared → Prop}
/-- how a turn ends, the ledger free to grow -/
def LTurnG (h₀ : Heap) (L : Addr) (s : Shared) (I : Addr) (oI : Obj) (J : (Str → Option Value) → List (Addr × Obj) → Prop) (Q : Flow → Shared → Prop) (f : Flow) (s₂ : Shared) : Prop :=
  match f with
  | .ret v => Q (.ret v) s₂
  | .brk => Q .next s₂
  | _ => ∃ h' tk' m' nx', s₂ = { s with heap := h', toks := tk' } ∧ Fr h₀ L h' m' ∧ News h₀ L h' ((I, oI) :: nx') ∧ (∀ p ∈ nx', p.1 ≠ I) ∧ J m' nx'
theorem lturnG {L : Addr} {I : Addr} {oI : Obj} {J : (Str → Option Value) → List (Addr × Obj) → Prop} {h' : Heap} {tk' : Nat} {m' : Str → Option Value} {all : List (Addr × Obj)} (nx' : List (Addr × Obj)) (F : Fr h₀ L h' m') (N : News h₀ L h' all) (hs : ∀ p ∈ (I, oI) :: nx', p ∈ all) (ha : ∀ p ∈ nx', p.1 ≠ I) (hJ : J m' nx') :
    LTurnG h₀ L s I oI J Q .next { s with heap := h', toks := tk' } := ⟨h', tk', m', nx', rfl, F, fun p hp => N p (hs p hp), ha, hJ⟩
def TurnOkG (h₀ : Heap) (L : Addr) (s : Shared) (I : Addr) (oI : Obj) (J : (Str → Option Value) → List (Addr × Obj) → Prop) (T : Flow → Shared → Prop) : Prop :=
  ∀ h' tk' m' nx', Fr h₀ L h' m' → News h₀ L h' ((I, oI) :: nx') → (∀ p ∈ nx', p.1 ≠ I) → J m' nx' → T .next { s with heap := h', toks := tk' }
theorem tturnG {L : Addr} {I : Addr} {oI : Obj} {J : (Str → Option Value) → List (Addr × Obj) → Prop} {T : Flow → Shared → Prop} {h' : Heap} {tk' : Nat} {m' : Str → Option Value} {all : List (Addr × Obj)} (hT : TurnOkG h₀ L s I oI J T) (nx' : List (Addr × Obj)) (F : Fr h₀ L h' m') (N : News h₀ L h' all) (hs : ∀ p ∈ (I, oI) :: nx', p ∈ all) (ha : ∀ p ∈ nx', p.1 ≠ I) (hJ : J m' nx') :
    T .next { s with heap := h', toks := tk' } := hT h' tk' m' nx' F (fun p hp => N p (hs p hp)) ha hJ
def LoopG (prog : Program) (w : World) (A : Around) (tgt : PySem.Expr) (env : Env) (body : List Stmt) (Q : Flow → Shared → Prop) (it : Value) (s₂ : Shared) : Prop :=
  codeAny (model prog w) A (.forLoop tgt it body [] env) (fun r s' => match r with | .ok f => Q f s' | .error _ => False) s₂
theorem For_G {tgt iter : PySem.Expr} {body : List Stmt} {pos : Pos} (h : wpAny (model prog w) A (eval iter env) (fun xv s₁ => wpAny (model prog w) A (pyIter xv) (fun it s₂ => LoopG prog w A tgt env body Q it s₂) (fun _ _ => False) s₁) (fun _ _ => False) s)
    (hs : ∀ x, foldedSetIterable iter env x = pure x := by intro _; rfl) : wpAny (model prog w) A (exec (.For tgt iter body [] pos) env) Q (fun _ _ => False) s := by
  refine wpAny_For (wpAny_mono h (fun xv s₁ h₁ => wpAny_mono h₁ (fun it s₂ h₂ => ?_) fun _ _ e => e) fun _ _ e => e) hs
  exact codeAny_mono h₂ fun r s' q => by cases r with
    | ok f => exact q
    | error e => exact q.elim
theorem no_note {m : Sem Unit} {Q : Unit → Shared → Prop} {E : Value → Shared → Prop} (h : wpAny (model prog w) A m Q (fun _ _ => False) s) : wpAny (model prog w) A m Q E s := wpAny_mono h (fun _ _ q => q) fun _ _ q => q.elim
theorem no_noteF {m : Sem Flow} {Q : Flow → Shared → Prop} {E : Value → Shared → Prop} (h : wpAny (model prog w) A m Q (fun _ _ => False) s) : wpAny (model prog w) A m Q E s := wpAny_mono h (fun _ _ q => q) fun _ _ q => q.elim
theorem loop_range {tgt : PySem.Expr} {body : List Stmt} {r : Addr} {a b : Int} {t u v : Tok} {n : Nat} {m₀ : Str → Option Value} {news : List (Addr × Obj)} (J : Nat → (Str → Option Value) → List (Addr × Obj) → Prop)
    (hh : A.handled = none) (hr : IsRange s.heap r a b 1 t u v) (hsm : Builtin.Range.small a b 1 = true) (hn : Builtin.Range.rangeSize a b 1 = ((n : Nat) : Int))
    (F : Fr h₀ env.locals s.heap m₀) (N : News h₀ env.locals s.heap news) (hj : J 0 m₀ news)
    (turn : ∀ i t m₁ nx h tk I oI (T : Flow → Shared → Prop), TurnOkG h₀ env.locals s I oI (J (i + 1)) T → i < n → (∀ p ∈ nx, p.1 ≠ I) → J i m₁ nx → Fr h₀ env.locals h m₁ → News h₀ env.locals h ((I, oI) :: nx) →
      wpAny (model prog w) A (assign tgt env (.int (a + (i : Int)) t)) (fun _ s₂ => wpAny (model prog w) A (execs body env) T (fun _ _ => False) s₂) (fun _ _ => False) { s with heap := h, toks := tk })
    (done : ∀ m₁ nx h tk, J n m₁ nx → Fr h₀ env.locals h m₁ → News h₀ env.locals h nx → Q .next { s with heap := h, toks := tk })
    (ht : ∀ v, letOwnedTupleGo tgt (.ref s.heap.objs.size) v = pure () := by intro _; rfl) :
    wpAny (model prog w) A (pyIter (.ref r)) (fun it s₂ => LoopG prog w A tgt env body Q it s₂) (fun _ _ => False) s := by
  refine wpAny_pyIter_range hr hsm ?_
  rw [hn]
  have W := LCg.range_walks (prog := prog) (w := w) (I := s.heap.objs.size) hh a n
  have hI₀ : h₀.get? s.heap.objs.size = none := next_is_new F
  have hIL : s.heap.objs.size ≠ env.locals := Ne.symm (Nat.ne_of_lt F.ns.lt)
  refine codeAny_forLoop (fun k s' => ∃ h tk m nx i, s' = { s with heap := h, toks := tk } ∧ IsRangeIter h s.heap.objs.size (a + (i : Nat) * 1) ((n : Int) - (i : Nat)) 1 ∧ Fr h₀ env.locals h m ∧ News h₀ env.locals h nx ∧ (∀ p ∈ nx, p.1 ≠ s.heap.objs.size) ∧ J i m nx ∧ i ≤ n ∧ k = n + 1 - i) ?_ (n + 1)
    ⟨_, _, m₀, news, 0, rfl, ?_, F.push _, fun p hp => ⟨Heap.get?_push_of_some _ (N p hp).1, (N p hp).2⟩, fun p hp => Nat.ne_of_lt (Heap.lt_size (N p hp).1), hj, Nat.zero_le _, rfl⟩ ht
  · rintro k s' ⟨h, tk, m, nx, i, rfl, hst, F', N', hoff, hJ, hi, rfl⟩
    by_cases hlt : i < n
    · refine W.item i _ _ _ hlt hst fun v h₁ tk₁ hP hst₁ hk₁ => ?_
      obtain ⟨t', rfl⟩ := hP
      have hk : ∀ b o, b ≠ s.heap.objs.size → h.get? b = some o → h₁.get? b = some o := fun b o hb e => hk₁ b o (fun q => hb (List.mem_singleton.mp q)) e
      have F₁ : Fr h₀ env.locals h₁ m := ⟨F'.ns.at' fun o e => hk _ o (Ne.symm hIL) e, fun b o e => hk b o (fun q => by rw [q, hI₀] at e; cases e) (F'.keep b o e), F'.above⟩
      have N₁ : News h₀ env.locals h₁ ((s.heap.objs.size, ({ cls := .type "range_iterator", dict := none, data := .fields #[rawInt (a + ((i + 1 : Nat) : Int) * 1), rawInt ((n : Int) - ((i + 1 : Nat) : Int)), rawInt 1], slots := #[] } : Obj)) :: nx) := fun p hp => by
        rcases List.mem_cons.mp hp with rfl | hp
        · exact ⟨hst₁, hIL, hI₀⟩
        · exact ⟨hk _ _ (hoff p hp) (N' p hp).1, (N' p hp).2⟩
      refine no_note (wpAny_mono (turn i t' m nx h₁ tk₁ _ _ (LTurnG h₀ env.locals s s.heap.objs.size _ (J (i + 1)) Q) (fun h' tk' m' nx' F N ha hJ => ⟨h', tk', m', nx', rfl, F, N, ha, hJ⟩) hlt hoff hJ F₁ N₁) (fun _ s₂ q => no_noteF (wpAny_mono q (fun f s₃ q => ?_) fun _ _ x => x)) fun _ _ x => x)
      have fin : (∃ h' tk' m' nx', s₃ = { s with heap := h', toks := tk' } ∧ Fr h₀ env.locals h' m' ∧ News h₀ env.locals h' ((s.heap.objs.size, ({ cls := .type "range_iterator", dict := none, data := .fields #[rawInt (a + ((i + 1 : Nat) : Int) * 1), rawInt ((n : Int) - ((i + 1 : Nat) : Int)), rawInt 1], slots := #[] } : Obj)) :: nx') ∧ (∀ p ∈ nx', p.1 ≠ s.heap.objs.size) ∧ J (i + 1) m' nx') →
          ∃ k', k' < n + 1 - i ∧ ∃ h tk m nx i, s₃ = { s with heap := h, toks := tk } ∧ IsRangeIter h s.heap.objs.size (a + (i : Nat) * 1) ((n : Int) - (i : Nat)) 1 ∧ Fr h₀ env.locals h m ∧ News h₀ env.locals h nx ∧ (∀ p ∈ nx, p.1 ≠ s.heap.objs.size) ∧ J i m nx ∧ i ≤ n ∧ k' = n + 1 - i := by
        rintro ⟨h', tk', m', nx', rfl, F₂, N₂, ha, hJ'⟩
        exact ⟨n + 1 - (i + 1), by omega, h', tk', m', nx', i + 1, rfl, (N₂ _ (.head _)).1, F₂, fun p hp => N₂ p (.tail _ hp), ha, hJ', hlt, rfl⟩
      cases f with
      | ret v => exact q
      | brk => exact q
      | next => exact fin q
      | cont => exact fin q
    · have hin : i = n := by omega
      subst hin
      refine W.done _ _ _ hst fun h₁ tk₁ hk₁ => wpAny_execs_nil ?_
      have hk : ∀ b o, b ≠ s.heap.objs.size → h.get? b = some o → h₁.get? b = some o := fun b o hb e => hk₁ b o (fun q => hb (List.mem_singleton.mp q)) e
      exact done m nx h₁ tk₁ hJ ⟨F'.ns.at' fun o e => hk _ o (Ne.symm hIL) e, fun b o e => hk b o (fun q => by rw [q, hI₀] at e; cases e) (F'.keep b o e), F'.above⟩ fun p hp => ⟨hk _ _ (hoff p hp) (N' p hp).1, (N' p hp).2⟩
  · show IsRangeIter _ _ _ _ _
    rw [show a + ((0 : Nat) : Int) * 1 = a by simp, show (n : Int) - ((0 : Nat) : Int) = n by simp]
    exact Heap.get?_push_size _ rfl
end
section
variable {M : Model} {A : Around} {E : Value → Shared → Prop} {s : Shared} {h₀ : Heap} {L a : Addr} {m : Str → Option Value} {cn : Str} {cs : Scope} {ccd : Value} {cl : List (Str × Addr)}
  {x : Str} {px : Pos} {v : Value} {Q : Unit → Shared → Prop} {news : List (Addr × Obj)} {g : Obj → List (Addr × Obj)} {c : Addr} {o : Obj} {v₀ : Option Value}
theorem assign_L (F : Fr h₀ L s.heap m) (N : News h₀ L s.heap news)
    (h : ∀ h', Fr h₀ L h' (fun y => if y = x then some v else m y) → News h₀ L h' news → Q () { s with heap := h', toks := s.toks + 1 })
    (hk : cs.kind = .function) (hx : (envX cn cs L a ccd cl).kindOf x = some .local) : wpAny M A (assign (.Name x px) (envX cn cs L a ccd cl) v) Q E s := wpAny_assign_Name (storeX_L F N h hk hx)
theorem assign_C (F : Fr h₀ L s.heap m) (N : News h₀ L s.heap news) (hc : cl.lookup x = some c) (U : UpdF c o news g) (hd : o.data = .cell v₀)
    (h : ∀ h' o', Fr h₀ L h' m → News h₀ L h' (g o') → o'.data = .cell (some v) → Q () { s with heap := h' })
    (hk : cs.kind = .function) (hx : (envX cn cs L a ccd cl).kindOf x = some .cell) : wpAny M A (assign (.Name x px) (envX cn cs L a ccd cl) v) Q E s := wpAny_assign_Name (storeX_C F N hc U hd h hk hx)
end
section
variable {prog : Program} {w : World} {p : Program} {loose : List Str} {mean : ExcName → Option Value} {mg mb : Str → Option Value}
/-- a place where a function with lambdas of its own is called: its table lies in the ledger -/
structure AtG (w : World) (p : Program) (loose : List Str) (mean : ExcName → Option Value) (mg mb : Str → Option Value) (A : Around) (dk : Nat) (h : Heap) (c r : Addr) (o : Obj) : Prop where
  hh : A.handled = none
  dep : A.depth + dk < recursionLimit
  uni : A.units + 8 * dk + 100 < cLine
  fr : ∃ A₀ base env outer h₀ L m, Below A₀ base outer h₀ ∧ Fr h₀ L h m ∧ (Mine.hd.heap_39 w.params).In h₀ ∧ Top p loose mean mg mb h₀ ∧ A.frames = some (env :: outer) ∧ env.frame = some L ∧ env.scope.kind = .function ∧ News h₀ L h [(r, o)] ∧ CodeHd h₀ c r
def GEnd (g : Heap) (s : Shared) (r : Addr) (R : List Int) (v : Value) (s' : Shared) : Prop :=
  ∃ L'' m'' h' tk' D vs k ps', v = .ref D ∧ s' = { s with heap := h', toks := tk' } ∧ D ≠ r ∧ Fr g L'' h' m'' ∧ News g L'' h' [(D, PySem.W.listOf (List.toArray vs) k), (r, tabObj ps')] ∧ IntsAre vs R
abbrev GCtr (prog : Program) (w : World) (A : Around) (s : Shared) (f : Addr) (args : List Value) (r : Addr) (R : List Int) : Prop :=
  wpAny (model prog w) A (call (.ref f) args []) (fun v s' => ∃ h' tk' D vs k ps', v = .ref D ∧ s' = { s with heap := h', toks := tk' } ∧ D ≠ r ∧ s.heap.get? D = none ∧ ButR r s.heap h' ∧ h'.get? r = some (tabObj ps') ∧ h'.get? D = some (PySem.W.listOf (List.toArray vs) k) ∧ IntsAre vs R) (fun _ _ => False) s
theorem enter_game {A : Around} {dk : Nat} {s : Shared} {c r : Addr} {o : Obj} {R : List Int} {name qual : Str} {params : Arguments} {body : List Stmt} {scope : Scope} {dV kV doc pm cdv ct oc : Value} {an od : Option Addr} {osl : Array (Option Value)} {f : Addr} {args : List Value} {binds : List (Str × Value)}
    (hat : AtG w p loose mean mg mb A (dk + 1) s.heap c r o)
    (ho : (Mine.hd.heap_39 w.params).lookup f = some ⟨oc, od, .func (fnOf name qual params body scope dV kV doc pm an cdv ct), osl⟩) (hcd : codeIn (Mine.hd.heap_39 w.params) cdv qual = true)
    (hbind : BindsTo s (fnOf name qual params body scope dV kV doc pm an cdv ct) ⟨args, []⟩ binds) (hkind : (binds.all fun y => scope.names.lookup y.1 == some .local || scope.names.lookup y.1 == some .cell) = true)
    (hnd : ((cellsFrom 0 scope.names []).map (·.1)).Nodup)
    (hco : scope.isCoroutine = false) (hgen : scope.isGenerator = false) (hk : scope.kind = .function)
    (h : ∀ g L' h₁ tk cells env outer base dp un gd, CodeHd g c r → Fr g L' h₁ (bindL (envOfC qual scope L' f cdv).kindOf binds fun _ => none) → News g L' h₁ (cells ++ [(r, o)]) →
      CellsAre (bindC (envOfC qual scope L' f cdv).kindOf binds fun _ => none) (cellsFrom (L' + 1) scope.names []) cells → Below { handled := none, depth := dp, frames := some (env :: outer), guards := gd, units := un : Around } base (env :: outer) g → (Mine.hd.heap_39 w.params).In g → Top p loose mean mg mb g → (∀ p ∈ [(r, o)], p.1 < L') →
      dp + dk + 1 < recursionLimit → un + 8 * dk + 108 < cLine →
      wpAny (model prog w) (Around.deeper { handled := none, depth := dp, frames := some (env :: outer), guards := gd, units := un : Around } (envOfC qual scope L' f cdv)) (execs body (envOfC qual scope L' f cdv))
        (fun fl s' => GEnd g s r R (match fl with | .ret v => v | _ => .none) s')
        (fun _ _ => False)
        { s with heap := h₁, toks := tk }) :
    GCtr prog w A s f args r R := by
  obtain ⟨hh, hd, hu, A₀, base, env, outer, h₀, L, m, B, F, X, T, hA, hf, hke, N, CH⟩ := hat
  obtain ⟨ah, ad, af, ag, au⟩ := A
  simp only at hh hd hu hA
  subst hh hA
  refine wpAny_call ?_
  obtain ⟨FG, BG, st, lv⟩ := groundX (A := { handled := none, depth := ad, frames := some (env :: outer), guards := ag, units := au }) (R := fun rr s' => match rr with | .ok (.ret v) => ∃ h' tk' D vs k ps', v = .ref D ∧ s' = { s with heap := h', toks := tk' } ∧ D ≠ r ∧ s.heap.get? D = none ∧ ButR r s.heap h' ∧ h'.get? r = some (tabObj ps') ∧ h'.get? D = some (PySem.W.listOf (List.toArray vs) k) ∧ IntsAre vs R | .ok _ => False | .error _ => False) B F N rfl hf hke
  have X' := X.keeps F.keep
  have hstay : ∀ b o', b ≠ r → s.heap.get? b = some o' → (hideAll s.heap ([(r, o)].map (·.1))).get? b = some o' := fun b o' hb e => hideAll_get _ e (fun q => hb (List.mem_singleton.mp q))
  refine codeAny_call_function (by show ad < _; omega) (X' _ _ ho) rfl hco hgen rfl (codeRec_of X' hcd) (hbind _ _ _ _ ?_)
  refine wpAny_newFunctionEnv_cells hk (kindsX hkind _) fun env' he s' x => ?_
  subst he
  refine ⟨(T.nolimit.keeps F.keep).keeps x.toInCall.keep, codeAny_func ?_⟩
  obtain ⟨h₁, tk, rfl, _⟩ := x.done
  have hk₁ := x.toInCall.keep
  obtain ⟨cells, NC, Y⟩ := Cl.news (h₀ := s.heap) (Nat.le_refl _) fun n c hm => ⟨x.cell n c (lookup_of_mem_nodup (cellsFrom_names scope.names 0 (s.heap.objs.size + 1) [] [] rfl ▸ hnd) hm), x.above n c hm⟩
  refine wpAny_mono (h _ s.heap.objs.size h₁ tk cells env outer base ad au ag (CH.keeps st) ⟨x.toInCall.ns, fun b o e => hk₁ b o (of_hideAll _ e), Nat.le_of_eq (hideAll_size _ _)⟩ (fun p hp => ?_) Y BG (X.keeps st) (T.keeps st) (fun p hp => Heap.lt_size (N p hp).1) (by omega) (by omega)) (fun fl s' q => ?_) (fun _ _ x => x.elim)
  · rcases List.mem_append.mp hp with hp | hp
    · refine ⟨(NC p hp).1, (NC p hp).2.1, ?_⟩
      cases q : (hideAll s.heap ([(r, o)].map (·.1))).get? p.1 with
      | none => rfl
      | some o => have := of_hideAll _ q; rw [(NC p hp).2.2] at this; cases this
    · exact ⟨hk₁ _ _ (N p hp).1, Nat.ne_of_lt (Heap.lt_size (N p hp).1), hideAll_none _ (List.mem_map_of_mem hp)⟩
  · obtain ⟨L'', m'', h', tk', D, vs, k, ps', hv, rfl, hDr, F'', N'', hi⟩ := q
    refine lv _ _ (leaveK_ F'' N'' fun _ _ => ⟨h', tk', D, vs, k, ps', hv, rfl, hDr, ?_, fun b o' hb e => F''.keep b o' (hstay b o' hb e), (N'' _ (.tail _ (.head _))).1, (N'' _ (.head _)).1, hi⟩)
    cases q : s.heap.get? D with
    | none => rfl
    | some o' =>
      have := (N'' _ (.head _)).2.2
      rw [show (D, PySem.W.listOf (List.toArray vs) k).1 = D from rfl, hstay D o' hDr q] at this; cases this
end
end
/-! part WuGame2 -/
noncomputable section
theorem reset_WuGame2 : True := by
  w_top off
  k_with_none
  (k_with "MY got" => (intro _ _ _ _ _ _; (try dsimp only); (try k_sweep)))
  (k_with "MY gotb" => (intro _ _ _ _ _; (try dsimp only); (try k_sweep)))
  (k_with "MY abs" => (refine abs_post ?_; intro _ _))
  (k_with "MY end" => ((fail_if_success (with_reducible show wpAny _ _ _ _ _ _)); (first | with_reducible refine TSeq.next (by assumption) _ ?_ | with_reducible refine TSeq.ret (by assumption) _ _ ?_ | with_reducible refine AbsQ.of (by assumption) _ _ ?_); (try dsimp only)))
  (k_with "execs cons" => (k_here; (try k_gentoks); (try k_made); (with_reducible refine seq_abs ?_); intro _ _; (try dsimp only)))
  (k_with "MY enter" => (
  intro _ _ _ _ _ _ _ _ _ _ _ _ _ _ _ _ _
  (try dsimp only)
  k_fold
  (try k_extra "MY abs")))
  (k_with "MY stop" => (
  (fail_if_success (with_reducible show Exists _));
  (fail_if_success (with_reducible show LCt.CompSrcT _ _ _ _ _ _ _ _ _ _ _ _ _ _ _));
  (fail_if_success (with_reducible show LCg.CompSrc _ _ _ _ _ _ _ _ _ _ _ _ _ _));
  (first | (with_reducible show Frag.In _ _ ∧ _) | (with_reducible show FnAt _ _ ∧ _) | (fail_if_success (with_reducible show And _ _)));
  (fail_if_success (with_reducible show wpAny _ _ (eval (Expr.ListComp _ _ _ _) _) _ _ _));
  (fail_if_success (with_reducible show wpAny _ _ (pyIter _) _ _ _));
  (fail_if_success (with_reducible show wpAny _ _ (exec (Stmt.Assign _ (Expr.ListComp _ _ _ _) _) _) _ _ _));
  (fail_if_success (with_reducible show wpAny _ _ (exec (Stmt.While _ _ _ _) _) _ _ _));
  (fail_if_success (with_reducible show wpAny _ _ (exec (Stmt.For _ _ _ _ _) _) _ _ _))))
  (k_with "MY one" => first
  | k_extra "MY end"
  | (k_unfold; (try dsimp only))
  | walk1
  | (dsimp only; walk1)
  | (dsimp only; k_unfold; (try dsimp only))
  | (leave1; walk_say "STEP leave1"; try dsimp only)
  | fail "no step")
  (k_with "MY steps" => w_strict (repeat' (k_extra "MY stop"; k_extra "MY one")))
  (k_with "MY at" => (exact At.of (by k_asm) (by k_asm) (by k_asm) (by k_asm) (by exact rfl) (by exact rfl) (by exact rfl) (by exact rfl) (by k_extra "MY room") (by k_extra "MY room")))
  (k_with "MY room" => first | decide | ((try dsimp only [Around.deeper]); first | with_reducible exact roomD (by assumption) (by decide) | with_reducible exact roomD2 (by assumption) (by decide) | with_reducible exact roomU (by assumption) (by decide) | with_reducible exact roomU2 (by assumption) (by decide) | omega))
  (k_with "MY stage" => (
  refine ⟨_, _, _, _, _, _, _, _, _, _, _, _, _, _, _, by k_is, ?_⟩))
  (k_with "MY steps2" => w_strict (repeat' (k_extra "MY stop"; (fail_if_success (with_reducible show wpAny _ _ (execs (Stmt.For _ _ _ _ _ :: _) _) _ _ _)); k_extra "MY one")))
  (k_with "MY sub" => first | exact sub_nil | exact sub_cons (by k_mem) (by k_extra "MY sub"))
  (k_with "MY off" => first | exact trivial | exact And.intro (by k_ne) (by k_extra "MY off"))
  trivial
/-! what the game makes -/
def insN (l : List Nat) (v : Nat) : List Nat :=
  if (l.drop (l.countP (· < v))).head? = some v then l else l.take (l.countP (· < v)) ++ v :: l.drop (l.countP (· < v))
def valsN (W : List Nat) (j : Nat) : List Nat := W.getD j 0 :: (List.range j).map fun k => W.getD j 0 ^^^ W.getD k 0
def leftN (W : List Nat) (j : Nat) : List Nat := (List.range j).foldl (fun l j => (valsN W j).foldl insN l) [0]
def mexN (l : List Nat) : Nat := (List.range l.length).countP fun i => decide ((l.getD i 0 : Int) - (i : Int) ≤ 0)
noncomputable def gameN : Nat → List Nat
  | 0 => []
  | n + 1 => gameN n ++ [mexN (leftN (gameN n) n)]
theorem game_len : ∀ n, (gameN n).length = n
  | 0 => rfl
  | n + 1 => by rw [gameN, List.length_append, game_len n]; rfl
def lamQ : Str := Str.ofString "_law_by_the_game" ++ ".<locals>." ++ "<lambda>"
/-- the table of by_the_game's code: empty, or it knows the lambda -/
def TabS (b : Addr) (ps : Array Value) (ex : List (Addr × Obj)) : Prop :=
  (ps = #[] ∧ ex = []) ∨ ∃ c' oc vs t, ps = #[rawInt 94, rawInt 66, .ref c'] ∧ ex = [(c', oc)] ∧ oc.data = .fields vs ∧ vs[1]? = some (.str lamQ t) ∧ b < c'
theorem zs_getD (W : List Nat) (j : Nat) : (zs W).getD j 0 = ((W.getD j 0 : Nat) : Int) := by
  rw [List.getD_eq_getElem?_getD, List.getD_eq_getElem?_getD, List.getElem?_map]
  cases W[j]? <;> rfl
theorem lay_game2_1 : True := by
  (k_with "call ref" => (k_here; (with_reducible show wpAny _ _ (call (Value.ref 49) _) _ _ _); (refine' use_int (xor_c (by k_extra "MY at")) (by k_asm) (by k_asm) ?_); k_extra "MY got"))
  (k_with "MY stays" => first | (exact fun _ _ e => e) | assumption | exact stays_trans (by assumption) (by assumption) | exact stays_trans (by assumption) (stays_trans (by assumption) (by assumption)))
  trivial
theorem isl_mem {h₀ h : Heap} {L l : Addr} {k : Nat} {vs : List Value} {news : List (Addr × Obj)} (N : News h₀ L h news) (hm : (l, PySem.W.listOf (List.toArray vs) k) ∈ news) : h.IsList l vs.toArray := ⟨_, (N _ hm).1, rfl, k, rfl⟩
theorem insN_ok {l : List Nat} (hl : l.Pairwise (· < ·)) (v : Nat) : (insN l v).Pairwise (· < ·) ∧ (insN l v).length ≤ l.length + 1 := by
  unfold insN
  split
  · exact ⟨hl, Nat.le_succ _⟩
  · rename_i hq
    have hc : l.countP (· < v) ≤ l.length := List.countP_le_length
    have hlo : ∀ j, j < l.countP (· < v) → ∀ h : j < l.length, l[j] < v := fun j hj h => by
      apply Classical.byContradiction
      intro hn
      have e : l = l.take j ++ l.drop j := (List.take_append_drop j l).symm
      have : l.countP (· < v) ≤ j := by
        rw [e, List.countP_append]
        have h2 : (l.drop j).countP (· < v) = 0 := by
          rw [List.countP_eq_zero]
          intro x hx
          obtain ⟨k, hk, rfl⟩ := List.getElem_of_mem hx
          rw [List.getElem_drop]
          have hk' : j + k < l.length := by simp at hk; omega
          rcases Nat.eq_zero_or_pos k with z | z
          · subst z; simpa using Nat.le_of_not_lt hn
          · have := List.pairwise_iff_getElem.mp hl j (j + k) h hk' (by omega)
            simp; omega
        have h3 : (l.take j).countP (· < v) ≤ j := Nat.le_trans List.countP_le_length (by simp; omega)
        omega
      omega
    have hhi : ∀ j, l.countP (· < v) ≤ j → ∀ h : j < l.length, v ≤ l[j] := fun j hj h => by
      apply Classical.byContradiction
      intro hn
      have e : l = l.take (j + 1) ++ l.drop (j + 1) := (List.take_append_drop _ l).symm
      have h2 : (l.take (j + 1)).countP (· < v) = j + 1 := by
        have h4 : (l.take (j + 1)).countP (· < v) = (l.take (j + 1)).length := by
          rw [List.countP_eq_length]
          intro x hx
          obtain ⟨k, hk, rfl⟩ := List.getElem_of_mem hx
          rw [List.getElem_take]
          have hk' : k ≤ j := by simp at hk; omega
          rcases Nat.eq_or_lt_of_le hk' with z | z
          · subst z; simp; omega
          · have := List.pairwise_iff_getElem.mp hl k j (by omega) h z
            simp; omega
        rw [h4, List.length_take]; omega
      have : j + 1 ≤ l.countP (· < v) := by
        have e2 := congrArg (List.countP (· < v)) e
        rw [List.countP_append, h2] at e2
        omega
      omega
    refine ⟨?_, by simp; omega⟩
    rw [List.pairwise_append, List.pairwise_cons]
    have hgt : ∀ y ∈ l.drop (l.countP (· < v)), v < y := fun y hy => by
      obtain ⟨k, hk, rfl⟩ := List.getElem_of_mem hy
      have hk' : l.countP (· < v) + k < l.length := by simp at hk; omega
      have h1 := hhi _ (Nat.le_add_right _ k) hk'
      rw [List.getElem_drop]
      rcases Nat.lt_or_eq_of_le h1 with z | z
      · exact z
      · exfalso
        rcases Nat.eq_zero_or_pos k with q | q
        · subst q
          apply hq
          rw [List.head?_drop, List.getElem?_eq_getElem (show l.countP (· < v) < l.length by omega)]
          exact congrArg some z.symm
        · have h5 := hhi _ (Nat.le_refl _) (show l.countP (· < v) < l.length by omega)
          have h6 := List.pairwise_iff_getElem.mp hl (l.countP (· < v)) (l.countP (· < v) + k) (by omega) hk' (by omega)
          omega
    refine ⟨hl.sublist (List.take_sublist ..), ⟨hgt, hl.sublist (List.drop_sublist ..)⟩, fun a ha b hb => ?_⟩
    have ha' : a < v := by
      obtain ⟨k, hk, rfl⟩ := List.getElem_of_mem ha
      rw [List.getElem_take]
      exact hlo k (by simp at hk; omega) (by simp at hk; omega)
    rcases List.mem_cons.mp hb with rfl | hb
    · exact ha'
    · exact Nat.lt_trans ha' (hgt b hb)
theorem fold_ok : ∀ {vals l : List Nat}, l.Pairwise (· < ·) → (vals.foldl insN l).Pairwise (· < ·) ∧ (vals.foldl insN l).length ≤ l.length + vals.length
  | [], l, hl => ⟨hl, Nat.le_refl _⟩
  | v :: vals, l, hl => by
    have h1 := insN_ok hl v
    have h2 := fold_ok (vals := vals) h1.1
    exact ⟨h2.1, by rw [List.length_cons]; have := h2.2; rw [List.foldl_cons]; omega⟩
theorem leftN_succ (W : List Nat) (j : Nat) : leftN W (j + 1) = (valsN W j).foldl insN (leftN W j) := by
  unfold leftN
  rw [List.range_succ, List.foldl_append]; rfl
theorem left_ok (W : List Nat) : ∀ j, j ≤ 6 → (leftN W j).Pairwise (· < ·) ∧ (leftN W j).length ≤ 1 + 8 * j
  | 0, _ => ⟨.cons (fun _ h => nomatch h) .nil, Nat.le_refl _⟩
  | j + 1, hj => by
    have h1 := left_ok W j (by omega)
    have h2 := fold_ok (vals := valsN W j) h1.1
    rw [leftN_succ]
    refine ⟨h2.1, ?_⟩
    have : (valsN W j).length = j + 1 := by simp [valsN]
    omega
theorem codeRec_st {h h' : Heap} {v : Value} {q : Str} (x : h.CodeRec v q) (st : h.StaysIn h') : h'.CodeRec v q := let ⟨c, oc, vs, t, e, e1, e2, e3⟩ := x; ⟨c, oc, vs, t, e, st _ _ e1, e2, e3⟩
theorem range_zs {vs : List Value} {n : Nat} (h : IntsAre vs (rangeKs 0 ((n : Int) - 0).toNat)) : IntsAre vs (zs (List.range n)) := by
  have e : rangeKs 0 ((n : Int) - 0).toNat = zs (List.range n) := by
    rw [show ((n : Int) - 0).toNat = n by omega]
    unfold rangeKs
    exact List.map_congr_left fun a _ => by omega
  rwa [e] at h
theorem mono_sub {l : List Nat} (hl : l.Pairwise (· < ·)) : ∀ i j, i ≤ j → j < (zs l).length → (zs l).getD i 0 - (i : Int) ≤ (zs l).getD j 0 - (j : Int) := by
  intro i j hij hj
  rw [zs_length] at hj
  induction j with
  | zero => have : i = 0 := by omega
            subst this; exact Int.le_refl _
  | succ j ih =>
    rcases Nat.eq_or_lt_of_le hij with q | q
    · subst q; exact Int.le_refl _
    · have h1 := ih (by omega) (by omega)
      have h2 := List.pairwise_iff_getElem.mp hl j (j + 1) (by omega) hj (by omega)
      have e1 : (zs l).getD j 0 = ((l[j]'(by omega) : Nat) : Int) := by rw [zs_getD, List.getD_eq_getElem?_getD, List.getElem?_eq_getElem (by omega)]; rfl
      have e2 : (zs l).getD (j + 1) 0 = ((l[j + 1]'hj : Nat) : Int) := by rw [zs_getD, List.getD_eq_getElem?_getD, List.getElem?_eq_getElem hj]; rfl
      rw [e1] at h1; rw [e2]
      omega
theorem mex_eq (l : List Nat) : (List.range (zs l).length).countP (fun k => decide ((zs l).getD k 0 - (k : Int) ≤ 0)) = mexN l := by
  unfold mexN
  rw [zs_length]
  congr 1
  funext k
  rw [zs_getD]
theorem fitsN {k : Nat} (h : k < 1000) : Builtin.List.listFitsIndex (k : Int) = true := by simp [Builtin.List.listFitsIndex]; omega
theorem ints_rel {n : Nat} {f : Nat → Nat} {ys : List Value} (hl : ys.length = n) (h : ∀ i y, ys[i]? = some y → ∃ t, y = Value.int ((f i : Nat) : Int) t) : IntsAre ys (zs ((List.range n).map f)) := by
  subst hl
  induction ys generalizing f with
  | nil => exact .nil
  | cons y ys ih =>
    obtain ⟨t, rfl⟩ := h 0 y rfl
    rw [List.length_cons, List.range_succ_eq_map, List.map_cons, List.map_map]
    exact .cons _ t (ih (f := f ∘ Nat.succ) fun i y hy => h (i + 1) y hy)
theorem lay_game2_3 : True := by
  (k_with "call ref" => (k_here; (with_reducible show wpAny _ _ (call (Value.ref 104) _) _ _ _); (refine' use_int (bisect_left_c (by k_extra "MY at") (by exact isl_mem (by k_asm) (by k_mem)) (by assumption) (by rw [zs_length]; omega) (by exact zs_sorted (by assumption))) (by k_asm) (by k_asm) ?_); k_extra "MY got"))
  trivial
theorem item_led {prog : Program} {w : World} {A : Around} {s : Shared} {h₀ : Heap} {L : Addr} {news : List (Addr × Obj)} {value slice : PySem.Expr} {l : Addr} {n : Nat} {vs : List Value} {ns : List Int} {k : Int} {u : Tok} {Q E : Value → Shared → Prop} (N : News h₀ L s.heap news) (hm : (l, PySem.W.listOf (List.toArray vs) n) ∈ news) (hi : IntsAre vs ns) (h0 : 0 ≤ k) (h1 : k < ns.length) (hf : ns.length < 2 ^ 60)
    (h : ∀ t, Q (.int (ns.getD k.toNat 0) t) s)
    (hs : subscripted slice false (.ref l) (.int k u) = operate [.ref l, .int k u] (getItem (.ref l) (.int k u)) := by with_unfolding_all rfl) :
    wpAny (model prog w) A (subscriptTail value slice (.ref l) (.int k u)) Q E s := by
  have hls : s.heap.IsList l vs.toArray := ⟨_, (N _ hm).1, rfl, n, rfl⟩
  have hk : k.toNat < ns.length := by omega
  obtain ⟨t, hx⟩ := hi.get k.toNat ns[k.toNat] (by simp [hk])
  have e : ns.getD k.toNat 0 = ns[k.toNat] := by rw [List.getD_eq_getElem?_getD, List.getElem?_eq_getElem hk]; rfl
  refine tail_any hls.typeIs slot_list_getitem.lookup (wpAny_getItem_list hls h0 (by omega) (by simpa using hx) ?_) hs
  have := h t
  rw [e] at this; exact this
theorem lay_game2_4 : True := by
  (k_with "subscriptTail" => (k_here; (with_reducible show wpAny _ _ (subscriptTail _ _ (Value.ref _) (Value.int _ _)) _ _ _); (refine' item_led (by k_asm) (by k_mem) (by assumption) (by omega) (by rw [zs_length, game_len]; omega) (by rw [zs_length, game_len]; omega) ?_); intro _))
  trivial
section
variable {prog : Program} {w : World} {p : Program} {loose : List Str} {mean : ExcName → Option Value} {mg mb : Str → Option Value}
theorem game_c {A : Around} {s : Shared} {c : Nat} {t : Tok} (hc : c ≤ 6) (hat : AtG w p loose mean mg mb A 6 s.heap 127 125 (tabObj #[])) :
    GCtr prog w A s 128 [.int (c : Int) t] 125 (zs (gameN c)) := by
  refine enter_game (dk := 5) (binds := [(Str.ofString "count", .int (c : Int) t)]) hat (by k_is) (by k_is) (BindsTo.of_eq rfl) rfl (by decide +kernel) rfl rfl rfl ?_
  intro g L h₁ tk cells env outer base dp un gd CH F N Y B X T lr hd hu
  obtain ⟨o1, o2, o3, hE, d1, d2, d3⟩ := CellsAre.three Y
  subst hE
  clear Y
  have hL125 := ltN (lr _ (.head _))
  clear lr
  (try dsimp only)
  (try k_unmd)
  k_fold
  k_extra "MY steps"
  refine For_G ?_
  k_extra "MY steps"
  rename Fr _ _ _ _ => F1
  rename News _ _ _ _ => N1
  rename IsRange _ _ _ _ _ _ _ _ => R1
  refine loop_range (n := c) (fun i m nx => ∃ l vsW nW oL oJ oW xL xJ ps ex, nx = [(l, PySem.W.listOf (List.toArray vsW) nW), (L + 1 + 1 + 1, oL), (L + 1 + 1, oJ), (L + 1, oW), (125, tabObj ps)] ++ ex ∧ L + 1 + 1 + 1 < l ∧ IntsAre vsW (zs (gameN i)) ∧ oW.data = .cell (some (.ref l)) ∧ oL.data = .cell xL ∧ oJ.data = .cell xJ ∧ TabS l ps ex) rfl R1 ?_ ?_ F1 N1 ?_ ?_ ?_
  · first | decide | exact small_one (by omega) (by omega) (by omega) (by omega)
  · exact rangeSize_nat _ _
  · refine ⟨_, [], 0, o1, o2, _, _, _, #[], [], rfl, ?_, .nil, by assumption, d1, d2, .inl ⟨rfl, rfl⟩⟩
    rename ∀ p ∈ _, _ < _ => lt
    exact lt _ (.head _)
  · clear F1 N1 R1
    rintro i t' m₁ nx h tk' I oI TT hTT hi hoff ⟨l, vsW, nW, oL, oJ, oW, xL, xJ, ps, ex, rfl, hl3, hiW, eW, eL, eJ, hT⟩ F₁ N₁
    refine assign_L F₁ N₁ ?_ rfl rfl
    clear F₁ N₁
    intro h2 F₂ N₂
    rw [show (0 : Int) + (i : Int) = (i : Int) by omega] at F₂
    replace hl3 := ltN hl3
    have hex : ∃ c' oc, (∀ p ∈ (125, tabObj ps) :: (c', oc) :: ex, p ∈ (125, tabObj ps) :: ex) ∧ (c' ≠ I ∧ c' ≠ L + 1 ∧ c' ≠ L + 1 + 1 ∧ c' ≠ L + 1 + 1 + 1 ∧ c' ≠ l) ∧ ((ps = #[] ∧ c' = 125) ∨ ∃ vs t, ps = #[rawInt 94, rawInt 66, .ref c'] ∧ oc.data = .fields vs ∧ vs[1]? = some (.str lamQ t) ∧ l < c') := by
      rcases hT with ⟨rfl, rfl⟩ | ⟨c', oc, vs, tq, rfl, rfl, hoc, hvs, hc3⟩
      · have h0 := neN (hoff _ (.tail _ (.tail _ (.tail _ (.tail _ (.head _))))))
        refine ⟨125, tabObj #[], fun p hp => ?_, ⟨h0, ?_, ?_, ?_, ?_⟩, .inl ⟨rfl, rfl⟩⟩
        · rcases List.mem_cons.mp hp with rfl | hp
          · exact .head _
          · exact hp
        · refine neN ?_; omega
        · refine neN ?_; omega
        · refine neN ?_; omega
        · refine neN ?_; omega
      · have h0 := neN (hoff _ (.tail _ (.tail _ (.tail _ (.tail _ (.tail _ (.head _)))))))
        replace hc3 := ltN hc3
        refine ⟨c', oc, fun p hp => ?_, ⟨h0, ?_, ?_, ?_, ?_⟩, .inr ⟨vs, tq, rfl, hoc, hvs, hc3⟩⟩
        · rcases List.mem_cons.mp hp with rfl | hp
          · exact .head _
          · rcases List.mem_cons.mp hp with rfl | hp
            · exact .tail _ (.head _)
            · exact .tail _ hp
        · refine neN ?_; omega
        · refine neN ?_; omega
        · refine neN ?_; omega
        · refine neN ?_; omega
    obtain ⟨c', oc, hsub, ⟨z0, z1, z2, z3, z4⟩, hT'⟩ := hex
    clear hT
    replace z0 := neN z0
    replace z1 := neN z1
    replace z2 := neN z2
    replace z3 := neN z3
    replace z4 := neN z4
    replace N₂ : News g L h2 [(I, oI), (l, PySem.W.listOf (List.toArray vsW) nW), (L + 1 + 1 + 1, oL), (L + 1 + 1, oJ), (L + 1, oW), (125, tabObj ps), (c', oc)] := fun p hp => N₂ p (by
      simp only [List.mem_cons, List.cons_append, List.nil_append, List.not_mem_nil, or_false] at hp ⊢
      rcases hp with rfl | rfl | rfl | rfl | rfl | hp
      · exact .inl rfl
      · exact .inr (.inl rfl)
      · exact .inr (.inr (.inl rfl))
      · exact .inr (.inr (.inr (.inl rfl)))
      · exact .inr (.inr (.inr (.inr (.inl rfl))))
      · have := hsub p (by rcases hp with rfl | rfl; exact .head _; exact .tail _ (.head _))
        rcases List.mem_cons.mp this with rfl | q
        · exact .inr (.inr (.inr (.inr (.inr (.inl rfl)))))
        · exact .inr (.inr (.inr (.inr (.inr (.inr q))))))
    obtain ⟨f1, f2, f3, f4, f5, _⟩ := offL hoff
    dsimp only at f1 f2 f3 f4 f5
    clear hoff
    clear hsub
    k_extra "MY steps"
    refine For_G ?_
    k_extra "MY steps"
    rename Fr _ _ _ _ => F1
    rename News _ _ _ _ => N1
    rename IsRange _ _ _ _ _ _ _ _ => R1
    refine loop_range (n := i) (fun j m nx => ∃ ll vsL nL oL' oJ' xJ', nx = [(ll, PySem.W.listOf (List.toArray vsL) nL), (I, oI), (l, PySem.W.listOf (List.toArray vsW) nW), (L + 1 + 1 + 1, oL'), (L + 1 + 1, oJ'), (L + 1, oW), (125, tabObj ps), (c', oc)] ∧ I < ll ∧ l < ll ∧ L + 1 + 1 + 1 < ll ∧ c' < ll ∧ IntsAre vsL (zs (leftN (gameN i) j)) ∧ oL'.data = .cell (some (.ref ll)) ∧ oJ'.data = .cell xJ' ∧ m (Str.ofString "place") = some (.int (i : Int) t')) rfl R1 ?_ ?_ F1 N1 ?_ ?_ ?_
    · exact small_one (by omega) (by omega) (by omega) (by omega)
    · exact rangeSize_nat _ _
    · refine ⟨_, [_], 0, _, oJ, _, rfl, ?_, ?_, ?_, ?_, .cons 0 _ .nil, by assumption, eJ, rfl⟩
      · refine ltN ?_; omega
      · refine ltN ?_; omega
      · refine ltN ?_; omega
      · refine ltN ?_; omega
    · clear F1 N1 R1
      rintro j t3 m₃ nx₃ h₃ tk₃ I₃ oI₃ TT hTT hj hoff₃ ⟨ll, vsL, nL, oL', oJ', xJ', rfl, g1, g2, g3, g4, hiL, eL', eJ', e1⟩ F₃ N₃
      obtain ⟨v0, v1, v2, v3, v4, v5, v6, v7, _⟩ := offL hoff₃
      dsimp only at v0 v1 v2 v3 v4 v5 v6 v7
      clear hoff₃
      replace g1 := ltN g1
      replace g2 := ltN g2
      replace g3 := ltN g3
      replace g4 := ltN g4
      refine assign_C (c := L + 1 + 1) F₃ N₃ rfl (by k_updF) eJ' ?_ rfl rfl
      clear F₃ N₃
      intro h4 oJ4 F₄ N₄ eJ4
      rw [show (0 : Int) + (j : Int) = (j : Int) by omega] at eJ4
      try dsimp only at N₄
      replace F₄ := expose1 F₄ e1
      clear eJ'
      k_extra "MY steps"
      refine For_invVF F₄ rfl rfl ?_ (by intro _; rfl) PassesOwn.never
      k_extra "MY steps"
      rename Fr _ _ _ _ => F5
      rename News _ _ _ _ => N5
      refine LCg.ListComp_U (cl := [(Str.ofString "worths", L + 1), (Str.ofString "j", L + 1 + 1)]) F5 (by with_unfolding_all rfl) (by decide) rfl (by decide) rfl ?_ (by intro _; rfl)
      k_extra "MY steps"
      rename Fr _ _ _ _ => F5
      rename News _ _ _ _ => N5
      rename IsRange _ _ _ _ _ _ _ _ => R5
      refine LCg.CompSrc.range rfl F5 N5 R5 (small_one (by omega) (by omega) (by omega) (by omega)) (rangeSize_nat _ _) (by rw [sizeLine_eq]; omega) ?_
      intro g'
      refine crest (fun k y => ∃ t, y = .int (((gameN i).getD j 0 ^^^ (gameN i).getD k 0 : Nat) : Int) t) trivial ?_ ?_
      · clear F5 N5 R5
        rintro k v C m₂ h5 tk5 hk ⟨tk6, rfl⟩ hC hx F N
        rw [show (0 : Int) + (k : Int) = (k : Int) by omega] at hx
        k_extra "MY steps"
        refine ⟨grown_refl (by k_extra "MY stays"), ?_⟩
        rw [Int.toNat_natCast, Int.toNat_natCast, zs_getD, zs_getD, bitXor_nat]
        exact ⟨_, rfl⟩
      · clear F5 N5 R5
        intro ys hys hrel D h5 tk5 F5 N5 fD
        rw [show ((j : Int) - 0).toNat = j by omega] at hys
        have hiY := ints_rel hys hrel
        have ltv := allLt_of fun p hp => Heap.lt_size (N5 p hp).1
        simp only [AllLt] at ltv
        k_extra "MY steps"
        rename Fr _ _ _ _ => F6
        rename News _ _ _ _ => N6
        clear F5 N5
        dsimp only at F6 N6 ⊢
        rw [Int.toNat_natCast, zs_getD] at N6
        generalize hlv : h5.objs.size = lv at N6 ltv ⊢
        obtain ⟨w1, w2, w3, w4, w5, w6, w7, w8, w9, w10, w11, _⟩ := ltv
        obtain ⟨tv, N7⟩ : ∃ tv, News g L _ [(lv, PySem.W.listOf (List.toArray (Value.int (((gameN i).getD j 0 : Nat) : Int) tv :: ys)) 0), (I₃, oI₃), (ll, PySem.W.listOf (List.toArray vsL) nL), (I, oI), (l, PySem.W.listOf (List.toArray vsW) nW), (L + 1 + 1 + 1, oL'), (L + 1 + 1, oJ4), (L + 1, oW), (125, tabObj ps), (c', oc)] := ⟨_, fun p hp => N6 p (by
          rcases List.mem_cons.mp hp with rfl | hp
          · exact .head _
          · exact .tail _ (.tail _ (.tail _ hp)))⟩
        have hiV : IntsAre (Value.int (((gameN i).getD j 0 : Nat) : Int) tv :: ys) (zs (valsN (gameN i) j)) := .cons _ _ hiY
        clear N6
        refine loop_list (l := lv) (fun q m nx => ∃ vsL nL, nx = [(lv, _), (I₃, oI₃), (ll, PySem.W.listOf (List.toArray vsL) nL), (I, oI), (l, PySem.W.listOf (List.toArray vsW) nW), (L + 1 + 1 + 1, oL'), (L + 1 + 1, oJ4), (L + 1, oW), (125, tabObj ps), (c', oc)] ∧ IntsAre vsL (zs (((valsN (gameN i) j).take q).foldl insN (leftN (gameN i) j))) ∧ m (Str.ofString "place") = some (.int (i : Int) t')) rfl (.inr ⟨0, .head _, by rintro q m nx ⟨vsL, nL, rfl, _⟩; exact .head _⟩) F6 N7 ⟨vsL, nL, rfl, hiL, rfl⟩ ?_ ?_
        · clear F6 N7
          rintro q v7 m7 nx7 h7 tk7 I7 oI7 TT hTT hv7 _ hoff7 ⟨vsL7, nL7, rfl, hiL7, e7⟩ F7 N7
          obtain ⟨n7, t7, hn7, rfl⟩ := zs_get hiV hv7
          obtain ⟨y0, y1, y2, y3, y4, y5, y6, y7, y8, y9, _⟩ := offL hoff7
          dsimp only at y0 y1 y2 y3 y4 y5 y6 y7 y8 y9
          clear hoff7
          have hqv : q < (valsN (gameN i) j).length := (List.getElem?_eq_some_iff.mp hn7).1
          have hvl : (valsN (gameN i) j).length = j + 1 := by simp [valsN]
          have hok := fold_ok (vals := (valsN (gameN i) j).take q) (left_ok (gameN i) j (by omega)).1
          have hlt := (left_ok (gameN i) j (by omega)).2
          have hnext : ((valsN (gameN i) j).take (q + 1)).foldl insN (leftN (gameN i) j) = insN (((valsN (gameN i) j).take q).foldl insN (leftN (gameN i) j)) n7 := by
            rw [List.take_add_one, hn7, List.foldl_append]; rfl
          generalize ((valsN (gameN i) j).take q).foldl insN (leftN (gameN i) j) = P at hiL7 hok hnext
          have hPs := hok.1
          have hPl : P.length < 1000 := by have := hok.2; rw [List.length_take] at this; omega
          clear hok
          replace F7 := expose2 F7 (x1 := Str.ofString "value") rfl (x2 := Str.ofString "place") e7
          try dsimp only at F7 N7
          have hz := zs_countP P n7
          have hcP : P.countP (· < n7) ≤ P.length := List.countP_le_length
          k_extra "MY steps"
          all_goals
            rename Fr _ _ _ _ => F8
            rename News _ _ _ _ => N8
          · rename List.take _ _ = [(n7 : Int)] => hq
            rw [hz, slice_one hcP] at hq
            refine tturn hTT [(lv, _), (I₃, oI₃), (ll, PySem.W.listOf (List.toArray vsL7) nL7), (I, oI), (l, PySem.W.listOf (List.toArray vsW) nW), (L + 1 + 1 + 1, oL'), (L + 1 + 1, oJ4), (L + 1, oW), (125, tabObj ps), (c', oc)] F8 N8 (fun p hp => .tail _ (.tail _ hp)) rfl ⟨vsL7, nL7, rfl, ?_, rfl⟩
            rw [hnext, insN, if_pos hq]; exact hiL7
          · rename ¬ (List.take _ _ = [(n7 : Int)]) => hq
            rw [hz, slice_one hcP] at hq
            have hlen7 := hiL7.length
            rw [zs_length] at hlen7
            refine kl_insert F8 N8 (fitsN (by rw [hz]; omega)) rfl (by k_upd) (by rw [sizeLine_eq]; simp; omega) ?_
            clear F8 N8
            intro h8 F8 N8
            k_extra "MY steps"
            refine tturn hTT [(lv, _), (I₃, oI₃), (ll, PySem.W.listOf _ (nL7 + 1)), (I, oI), (l, PySem.W.listOf (List.toArray vsW) nW), (L + 1 + 1 + 1, oL'), (L + 1 + 1, oJ4), (L + 1, oW), (125, tabObj ps), (c', oc)] F8 N8 (fun p hp => .tail _ (.tail _ hp)) rfl ⟨_, _, rfl, ?_, rfl⟩
            rw [hnext, insN, if_neg hq]
            have e1 : (if ((((zs P).countP fun y => decide (y < (n7 : Int))) : Nat) : Int) < 0 then (((((zs P).countP fun y => decide (y < (n7 : Int))) : Nat) : Int) + (vsL7.length : Int)).toNat else min ((((zs P).countP fun y => decide (y < (n7 : Int))) : Nat) : Int).toNat vsL7.length) = P.countP (· < n7) := by
              rw [hz, if_neg (by omega)]; omega
            show IntsAre (kl_ins vsL7 _ _) _
            unfold kl_ins
            rw [e1]
            have e2 : zs (P.take (P.countP (· < n7)) ++ n7 :: P.drop (P.countP (· < n7))) = (zs P).take (P.countP (· < n7)) ++ (n7 : Int) :: (zs P).drop (P.countP (· < n7)) := by simp [zs, List.map_take, List.map_drop]
            rw [e2]
            exact IntsAre.append (hiL7.take _) (.cons _ _ (hiL7.drop _))
        · clear F6 N7
          rintro m7 nx7 h7 tk7 _ ⟨vsL7, nL7, rfl, hiL7, e7⟩ F7 N7
          k_extra "MY steps"
          have hl9 : (Value.int (((gameN i).getD j 0 : Nat) : Int) tv :: ys).length = (valsN (gameN i) j).length := by rw [hiV.length, zs_length]
          rw [hl9, List.take_length, ← leftN_succ] at hiL7
          refine tturnG hTT [(ll, PySem.W.listOf (List.toArray vsL7) nL7), (I, oI), (l, PySem.W.listOf (List.toArray vsW) nW), (L + 1 + 1 + 1, oL'), (L + 1 + 1, oJ4), (L + 1, oW), (125, tabObj ps), (c', oc)] F7 N7 (fun p hp => .tail _ hp) ?_ ⟨ll, vsL7, nL7, oL', oJ4, _, rfl, g1, g2, g3, g4, hiL7, eL', eJ4, e7⟩
          exact offL_mem _ ⟨v0, v1, v2, v3, v4, v5, v6, v7, trivial⟩
    · clear F1 N1 R1
      rintro m7 nx7 h7 tk7 ⟨ll, vsL, nL, oL', oJ', xJ', rfl, g1, g2, g3, g4, hiL, eL', eJ', e1⟩ F7 N7
      replace g1 := ltN g1
      replace g2 := ltN g2
      replace g3 := ltN g3
      replace g4 := ltN g4
      replace F7 := expose1 F7 e1
      obtain ⟨nsL, hnsL⟩ : ∃ nsL, nsL = zs (leftN (gameN i) i) := ⟨_, rfl⟩
      have hlenL : nsL.length < 1000 := by rw [hnsL, zs_length]; have := (left_ok (gameN i) i (by omega)).2; omega
      rw [← hnsL] at hiL
      replace F7 : Fr g L _ _ := F7
      replace N7 : News g L _ _ := N7
      k_extra "MY steps"
      rename Fr _ _ _ _ => F9
      rename News _ _ _ _ => N9
      rename IntsAre _ (rangeKs _ _) => hiD
      rcases hT' with ⟨rfl, rfl⟩ | ⟨vs9, t9, rfl, hoc9, hvs9, hlc⟩
      · refine kla_eval rfl ?_
        replace N9 : News g L _ [(_, _), (ll, PySem.W.listOf (List.toArray vsL) nL), (I, oI), (l, PySem.W.listOf (List.toArray vsW) nW), (L + 1 + 1 + 1, oL'), (L + 1 + 1, oJ'), (L + 1, oW), (125, tabObj #[])] := fun p hp => N9 p (by
          rcases List.mem_cons.mp hp with rfl | hp
          · exact .head _
          · exact .tail _ (List.mem_append_left [_] hp))
        refine kla_nest (ps := #[]) F9 N9 T CH rfl (by k_updF) True.intro rfl (by with_unfolding_all rfl) ?_
        clear F9 N9
        intro f9 c9 oc9 vs9 t9 ctv9 h9 tk9 F9 N9 hoc9 hvs9 l9 lf9
        k_extra "MY steps"
        show wpAny _ _ (call (.ref 86) [.ref _, .int 0 _] [(Str.ofString "key", .ref f9)]) _ _ _
        refine use_intK (bisect_right_key (p := p) (loose := loose) (mean := mean) (mg := mg) (mb := mb) (n := nsL.length) (At.of (by assumption) F9 (by assumption) (by assumption) rfl rfl rfl rfl (by k_extra "MY room") (by k_extra "MY room")) (isl_mem N9 (.tail _ (.tail _ (.head _)))) (range_zs hiD) (by omega) (fun k => nsL.getD k 0 - (k : Int)) (FnAt.of N9 (.head _)) (fun A' s' k t' hat' st' hk => ?_) (hnsL ▸ mono_sub (left_ok (gameN i) i (by omega)).1)) F9 N9 ?_
        · have := lam_c (prog := prog) (j := (k : Int)) (t := t') hat' (st' _ _ (N9 _ (.head _)).1) (codeRec_st (codeRec_news N9 (.tail _ (.head _)) hoc9 hvs9) st') (st' _ _ (N9 (_, oL') (by k_mem)).1) eL' (stays_list st' (isl_mem N9 (by k_mem))) hiL (by omega) (by omega) (by omega)
          rwa [Int.toNat_natCast] at this
        · rename Below _ _ _ _ => B9
          clear F9 N9
          intro t8 h8 tk8 st8 F8 N8
          rw [hnsL, mex_eq]
          have l9' := allLt_of l9
          simp only [AllLt] at l9'
          replace lf9 := ltN lf9
          k_extra "MY steps"
          have hlW := hiW.length
          rw [zs_length, game_len] at hlW
          refine append_K (D := l) F8 N8 (by k_upd) ?_ (by rw [sizeLine_eq, List.size_toArray]; omega)
          clear F8 N8
          intro h8 F8 N8
          rw [List.push_toArray] at N8
          k_extra "MY steps"
          have hiW' : IntsAre (vsW ++ [Value.int ((mexN (leftN (gameN i) i) : Nat) : Int) t8]) (zs (gameN (i + 1))) := by
            show IntsAre _ (zs (gameN i ++ [mexN (leftN (gameN i) i)]))
            rw [show zs (gameN i ++ [mexN (leftN (gameN i) i)]) = zs (gameN i) ++ [((mexN (leftN (gameN i) i) : Nat) : Int)] by simp [zs]]
            exact IntsAre.append hiW (.cons _ _ .nil)
          refine tturnG hTT [(l, PySem.W.listOf (List.toArray (vsW ++ [Value.int ((mexN (leftN (gameN i) i) : Nat) : Int) t8])) (nW + 1)), (L + 1 + 1 + 1, oL'), (L + 1 + 1, oJ'), (L + 1, oW), (125, tabObj (#[] ++ #[rawInt 94, rawInt 66, .ref c9])), (c9, oc9)] F8 N8 ?_ ?_ ⟨l, _, nW + 1, oL', oJ', oW, _, _, #[] ++ #[rawInt 94, rawInt 66, .ref c9], [(c9, oc9)], rfl, hl3, hiW', eW, eL', eJ', .inr ⟨c9, oc9, vs9, t9, rfl, rfl, hoc9, hvs9, l9'.2.2.2.1⟩⟩
          · intro p hp
            rcases List.mem_cons.mp hp with rfl | hp
            · exact .tail _ (.tail _ (.tail _ (.tail _ (.head _))))
            · rcases List.mem_append.mp (show p ∈ [_, _, _, _, _] ++ [(c9, oc9)] from hp) with hp | hp
              · exact .tail _ (.tail _ (.tail _ (.tail _ (.tail _ hp))))
              · rw [List.mem_singleton.mp hp]; exact .tail _ (.head _)
          · have h10 := l9'.2.2.1
            exact offL_mem _ ⟨f1, f2, f3, f4, f5, neN (by omega), trivial⟩
      · refine kla_eval rfl ?_
        refine kla_hit (c' := c') (ps := #[rawInt 94, rawInt 66, .ref c']) F9 N9 T CH rfl (by k_mem) (by simp [TriplesOk, rawInt]) (by simp [codeAmong, rawInt]) (by with_unfolding_all rfl) ?_
        clear F9 N9
        intro f9 ctv9 h9 tk9 F9 N9 lf9
        k_extra "MY steps"
        show wpAny _ _ (call (.ref 86) [.ref _, .int 0 _] [(Str.ofString "key", .ref f9)]) _ _ _
        refine use_intK (bisect_right_key (p := p) (loose := loose) (mean := mean) (mg := mg) (mb := mb) (n := nsL.length) (At.of (by assumption) F9 (by assumption) (by assumption) rfl rfl rfl rfl (by k_extra "MY room") (by k_extra "MY room")) (isl_mem N9 (.tail _ (.head _))) (range_zs hiD) (by omega) (fun k => nsL.getD k 0 - (k : Int)) (FnAt.of N9 (.head _)) (fun A' s' k t' hat' st' hk => ?_) (hnsL ▸ mono_sub (left_ok (gameN i) i (by omega)).1)) F9 N9 ?_
        · have := lam_c (prog := prog) (j := (k : Int)) (t := t') hat' (st' _ _ (N9 _ (.head _)).1) (codeRec_st (codeRec_news N9 (by k_mem) hoc9 hvs9) st') (st' _ _ (N9 (_, oL') (by k_mem)).1) eL' (stays_list st' (isl_mem N9 (by k_mem))) hiL (by omega) (by omega) (by omega)
          rwa [Int.toNat_natCast] at this
        · rename Below _ _ _ _ => B9
          clear F9 N9
          intro t8 h8 tk8 st8 F8 N8
          rw [hnsL, mex_eq]
          have l9' := allLt_of lf9
          simp only [AllLt] at l9'
          k_extra "MY steps"
          have hlW := hiW.length
          rw [zs_length, game_len] at hlW
          refine append_K (D := l) F8 N8 (by k_upd) ?_ (by rw [sizeLine_eq, List.size_toArray]; omega)
          clear F8 N8
          intro h8 F8 N8
          rw [List.push_toArray] at N8
          k_extra "MY steps"
          have hiW' : IntsAre (vsW ++ [Value.int ((mexN (leftN (gameN i) i) : Nat) : Int) t8]) (zs (gameN (i + 1))) := by
            show IntsAre _ (zs (gameN i ++ [mexN (leftN (gameN i) i)]))
            rw [show zs (gameN i ++ [mexN (leftN (gameN i) i)]) = zs (gameN i) ++ [((mexN (leftN (gameN i) i) : Nat) : Int)] by simp [zs]]
            exact IntsAre.append hiW (.cons _ _ .nil)
          refine tturnG hTT [(l, PySem.W.listOf (List.toArray (vsW ++ [Value.int ((mexN (leftN (gameN i) i) : Nat) : Int) t8])) (nW + 1)), (L + 1 + 1 + 1, oL'), (L + 1 + 1, oJ'), (L + 1, oW), (125, tabObj #[rawInt 94, rawInt 66, .ref c']), (c', oc)] F8 N8 (fun p hp => .tail _ (.tail _ (.tail _ hp))) ?_ ⟨l, _, nW + 1, oL', oJ', oW, _, _, #[rawInt 94, rawInt 66, .ref c'], [(c', oc)], rfl, hl3, hiW', eW, eL', eJ', .inr ⟨c', oc, vs9, t9, rfl, rfl, hoc9, hvs9, hlc⟩⟩
          exact offL_mem _ ⟨f1, f2, f3, f4, f5, z0, trivial⟩
  · clear F1 N1 R1
    rintro m₁ nx h tk' ⟨l, vsW, nW, oL, oJ, oW, xL, xJ, ps, ex, rfl, hl3, hiW, eW, eL, eJ, hT⟩ F₁ N₁
    have N₂ : News g L h [(l, PySem.W.listOf (List.toArray vsW) nW), (L + 1 + 1 + 1, oL), (L + 1 + 1, oJ), (L + 1, oW), (125, tabObj ps)] := fun p hp => N₁ p (List.mem_append_left _ hp)
    replace F₁ : Fr g L _ _ := F₁
    clear N₁
    replace hl3 := ltN hl3
    k_extra "MY steps"
    refine ⟨L, m₁, h, tk', l, vsW, nW, ps, rfl, rfl, neN (by omega), F₁, fun p hp => N₂ p ?_, hiW⟩
    rcases List.mem_cons.mp hp with rfl | hp
    · exact .head _
    · rw [List.mem_singleton.mp hp]; exact .tail _ (.tail _ (.tail _ (.tail _ (.head _))))
end
end
/-! part WuLaw0 -/
noncomputable section
theorem reset_WuLaw0 : True := by
  w_top off
  k_with_none
  (k_with "MY got" => (intro _ _ _ _ _ _; (try dsimp only); (try k_sweep)))
  (k_with "MY gotb" => (intro _ _ _ _ _; (try dsimp only); (try k_sweep)))
  (k_with "MY abs" => (refine abs_post ?_; intro _ _))
  (k_with "MY end" => ((fail_if_success (with_reducible show wpAny _ _ _ _ _ _)); (first | with_reducible refine TSeq.next (by assumption) _ ?_ | with_reducible refine TSeq.ret (by assumption) _ _ ?_ | with_reducible refine AbsQ.of (by assumption) _ _ ?_); (try dsimp only)))
  (k_with "execs cons" => (k_here; (try k_gentoks); (try k_made); (with_reducible refine seq_abs ?_); intro _ _; (try dsimp only)))
  (k_with "MY enter" => (
  intro _ _ _ _ _ _ _ _ _ _ _ _ _ _ _ _ _
  (try dsimp only)
  k_fold
  (try k_extra "MY abs")))
  (k_with "MY stop" => (
  (fail_if_success (with_reducible show Exists _));
  (fail_if_success (with_reducible show LCt.CompSrcT _ _ _ _ _ _ _ _ _ _ _ _ _ _ _));
  (fail_if_success (with_reducible show LCg.CompSrc _ _ _ _ _ _ _ _ _ _ _ _ _ _));
  (first | (with_reducible show Frag.In _ _ ∧ _) | (with_reducible show FnAt _ _ ∧ _) | (fail_if_success (with_reducible show And _ _)));
  (fail_if_success (with_reducible show wpAny _ _ (eval (Expr.ListComp _ _ _ _) _) _ _ _));
  (fail_if_success (with_reducible show wpAny _ _ (pyIter _) _ _ _));
  (fail_if_success (with_reducible show wpAny _ _ (exec (Stmt.Assign _ (Expr.ListComp _ _ _ _) _) _) _ _ _));
  (fail_if_success (with_reducible show wpAny _ _ (exec (Stmt.While _ _ _ _) _) _ _ _));
  (fail_if_success (with_reducible show wpAny _ _ (exec (Stmt.For _ _ _ _ _) _) _ _ _))))
  (k_with "MY one" => first
  | k_extra "MY end"
  | (k_unfold; (try dsimp only))
  | walk1
  | (dsimp only; walk1)
  | (dsimp only; k_unfold; (try dsimp only))
  | (leave1; walk_say "STEP leave1"; try dsimp only)
  | fail "no step")
  (k_with "MY steps" => w_strict (repeat' (k_extra "MY stop"; k_extra "MY one")))
  (k_with "MY at" => (exact At.of (by k_asm) (by k_asm) (by k_asm) (by k_asm) (by exact rfl) (by exact rfl) (by exact rfl) (by exact rfl) (by k_extra "MY room") (by k_extra "MY room")))
  (k_with "MY room" => first | decide | ((try dsimp only [Around.deeper]); first | with_reducible exact roomD (by assumption) (by decide) | with_reducible exact roomD2 (by assumption) (by decide) | with_reducible exact roomU (by assumption) (by decide) | with_reducible exact roomU2 (by assumption) (by decide) | omega))
  (k_with "MY stage" => (
  refine ⟨_, _, _, _, _, _, _, _, _, _, _, _, _, _, _, by k_is, ?_⟩))
  (k_with "MY steps2" => w_strict (repeat' (k_extra "MY stop"; (fail_if_success (with_reducible show wpAny _ _ (execs (Stmt.For _ _ _ _ _ :: _) _) _ _ _)); k_extra "MY one")))
  (k_with "MY sub" => first | exact sub_nil | exact sub_cons (by k_mem) (by k_extra "MY sub"))
  (k_with "MY off" => first | exact trivial | exact And.intro (by k_ne) (by k_extra "MY off"))
  trivial
/-- how the law's body ends: True comes back -/
def LawEnd (g : Heap) (s : Shared) (fl : Flow) (s' : Shared) : Prop := fl = .ret (.bool true) ∧ ∃ L h' tk' m' ps, s' = { s with heap := h', toks := tk' } ∧ Fr g L h' m' ∧ News g L h' [(125, tabObj ps)]
/-- a stage of the law's body, from its k-th line on: a clean place to walk -/
def Stage (prog : Program) (w : World) (p : Program) (loose : List Str) (mean : ExcName → Option Value) (mg mb : Str → Option Value) (k : Nat) (P : Heap → Addr → Heap → Shared → (Str → Option Value) → List (Addr × Obj) → Prop) : Prop :=
  ∃ oc od name qual params body scope dV kV doc pm an cdv ct osl, (Mine.hd.heap_39 w.params).lookup 159 = some ⟨oc, od, .func (fnOf name qual params body scope dV kV doc pm an cdv ct), osl⟩ ∧
    ∀ (dp un : Nat) (gd : Option (List Code)) (outer : List Env) (base g : Heap) (L fa : Addr) (cd : Value) (h : Heap) (m : Str → Option Value) (news : List (Addr × Obj)) (s : Shared) (tk : Nat),
      Below { handled := none, depth := dp, frames := some outer, guards := gd, units := un : Around } base outer g → (Mine.hd.heap_39 w.params).In g → Top p loose mean mg mb g → CodeHd g 127 125 → dp + 20 < recursionLimit → un + 300 < cLine → 125 < L →
      Fr g L h m → News g L h news → P g L h s m news →
      wpAny (model prog w) (Around.deeper { handled := none, depth := dp, frames := some outer, guards := gd, units := un : Around } (envOfC qual scope L fa cd)) (execs (body.drop k) (envOfC qual scope L fa cd)) (LawEnd g s) (fun _ _ => False) { s with heap := h, toks := tk }
theorem Stage.use {prog : Program} {w : World} {p : Program} {loose : List Str} {mean : ExcName → Option Value} {mg mb : Str → Option Value} {k : Nat} {P : Heap → Addr → Heap → Shared → (Str → Option Value) → List (Addr × Obj) → Prop} (st : Stage prog w p loose mean mg mb k P)
    {oc : Value} {od : Option Addr} {name qual : Str} {params : Arguments} {body : List Stmt} {scope : Scope} {dV kV doc pm : Value} {an : Option Addr} {cdv ct : Value} {osl : Array (Option Value)}
    (ho : (Mine.hd.heap_39 w.params).lookup 159 = some ⟨oc, od, .func (fnOf name qual params body scope dV kV doc pm an cdv ct), osl⟩) :
    ∀ (dp un : Nat) (gd : Option (List Code)) (outer : List Env) (base g : Heap) (L fa : Addr) (cd : Value) (h : Heap) (m : Str → Option Value) (news : List (Addr × Obj)) (s : Shared) (tk : Nat),
      Below { handled := none, depth := dp, frames := some outer, guards := gd, units := un : Around } base outer g → (Mine.hd.heap_39 w.params).In g → Top p loose mean mg mb g → CodeHd g 127 125 → dp + 20 < recursionLimit → un + 300 < cLine → 125 < L →
      Fr g L h m → News g L h news → P g L h s m news →
      wpAny (model prog w) (Around.deeper { handled := none, depth := dp, frames := some outer, guards := gd, units := un : Around } (envOfC qual scope L fa cd)) (execs (body.drop k) (envOfC qual scope L fa cd)) (LawEnd g s) (fun _ _ => False) { s with heap := h, toks := tk } := by
  obtain ⟨oc', od', name', qual', params', body', scope', dV', kV', doc', pm', an', cdv', ct', osl', h1, h2⟩ := st
  have h3 := Option.some.inj (h1.symm.trans ho)
  have h4 : (fnOf name' qual' params' body' scope' dV' kV' doc' pm' an' cdv' ct') = (fnOf name qual params body scope dV kV doc pm an cdv ct) := Data.func.inj (Obj.mk.inj h3).2.2.1
  have h5 := congrArg FuncData.qualname h4
  have h6 := congrArg FuncData.scope h4
  have h7 := congrArg FuncData.body h4
  have e5 : qual' = qual := h5
  have e6 : scope' = scope := h6
  have e7 : body' = body := by injection h7
  subst e5 e6 e7
  exact h2
end
/-! part WuLawA -/
noncomputable section
theorem reset_WuLawA : True := by
  w_top off
  k_with_none
  (k_with "MY got" => (intro _ _ _ _ _ _; (try dsimp only); (try k_sweep)))
  (k_with "MY gotb" => (intro _ _ _ _ _; (try dsimp only); (try k_sweep)))
  (k_with "MY abs" => (refine abs_post ?_; intro _ _))
  (k_with "MY end" => ((fail_if_success (with_reducible show wpAny _ _ _ _ _ _)); (first | with_reducible refine TSeq.next (by assumption) _ ?_ | with_reducible refine TSeq.ret (by assumption) _ _ ?_ | with_reducible refine AbsQ.of (by assumption) _ _ ?_); (try dsimp only)))
  (k_with "execs cons" => (k_here; (try k_gentoks); (try k_made); (with_reducible refine seq_abs ?_); intro _ _; (try dsimp only)))
  (k_with "MY enter" => (
  intro _ _ _ _ _ _ _ _ _ _ _ _ _ _ _ _ _
  (try dsimp only)
  k_fold
  (try k_extra "MY abs")))
  (k_with "MY stop" => (
  (fail_if_success (with_reducible show Exists _));
  (fail_if_success (with_reducible show LCt.CompSrcT _ _ _ _ _ _ _ _ _ _ _ _ _ _ _));
  (fail_if_success (with_reducible show LCg.CompSrc _ _ _ _ _ _ _ _ _ _ _ _ _ _));
  (first | (with_reducible show Frag.In _ _ ∧ _) | (with_reducible show FnAt _ _ ∧ _) | (fail_if_success (with_reducible show And _ _)));
  (fail_if_success (with_reducible show wpAny _ _ (eval (Expr.ListComp _ _ _ _) _) _ _ _));
  (fail_if_success (with_reducible show wpAny _ _ (pyIter _) _ _ _));
  (fail_if_success (with_reducible show wpAny _ _ (exec (Stmt.Assign _ (Expr.ListComp _ _ _ _) _) _) _ _ _));
  (fail_if_success (with_reducible show wpAny _ _ (exec (Stmt.While _ _ _ _) _) _ _ _));
  (fail_if_success (with_reducible show wpAny _ _ (exec (Stmt.For _ _ _ _ _) _) _ _ _))))
  (k_with "MY one" => first
  | k_extra "MY end"
  | (k_unfold; (try dsimp only))
  | walk1
  | (dsimp only; walk1)
  | (dsimp only; k_unfold; (try dsimp only))
  | (leave1; walk_say "STEP leave1"; try dsimp only)
  | fail "no step")
  (k_with "MY steps" => w_strict (repeat' (k_extra "MY stop"; k_extra "MY one")))
  (k_with "MY at" => (exact At.of (by k_asm) (by k_asm) (by k_asm) (by k_asm) (by exact rfl) (by exact rfl) (by exact rfl) (by exact rfl) (by k_extra "MY room") (by k_extra "MY room")))
  (k_with "MY room" => first | decide | ((try dsimp only [Around.deeper]); first | with_reducible exact roomD (by assumption) (by decide) | with_reducible exact roomD2 (by assumption) (by decide) | with_reducible exact roomU (by assumption) (by decide) | with_reducible exact roomU2 (by assumption) (by decide) | omega))
  (k_with "MY stage" => (
  refine ⟨_, _, _, _, _, _, _, _, _, _, _, _, _, _, _, by k_is, ?_⟩))
  (k_with "MY steps2" => w_strict (repeat' (k_extra "MY stop"; (fail_if_success (with_reducible show wpAny _ _ (execs (Stmt.For _ _ _ _ _ :: _) _) _ _ _)); k_extra "MY one")))
  (k_with "MY sub" => first | exact sub_nil | exact sub_cons (by k_mem) (by k_extra "MY sub"))
  (k_with "MY off" => first | exact trivial | exact And.intro (by k_ne) (by k_extra "MY off"))
  trivial
section
variable {prog : Program} {w : World} {p : Program} {loose : List Str} {mean : ExcName → Option Value} {mg mb : Str → Option Value}
theorem AtG.of {A A₀ : Around} {base h₀ h : Heap} {env : Env} {outer : List Env} {L : Addr} {m : Str → Option Value} {dk : Nat} {c r : Addr} {o : Obj} {news : List (Addr × Obj)} (B : Below A₀ base outer h₀) (F : Fr h₀ L h m) (X : (Mine.hd.heap_39 w.params).In h₀) (T : Top p loose mean mg mb h₀) (CH : CodeHd h₀ c r) (N : News h₀ L h news) (hm : (r, o) ∈ news)
    (hA : A.frames = some (env :: outer)) (hf : env.frame = some L) (hk : env.scope.kind = .function) (hh : A.handled = none) (hd : A.depth + dk < recursionLimit) (hu : A.units + 8 * dk + 100 < cLine) : AtG w p loose mean mg mb A dk h c r o :=
  ⟨hh, hd, hu, A₀, base, env, outer, h₀, L, m, B, F, X, T, hA, hf, hk, fun q hq => by rw [List.mem_singleton.mp hq]; exact N _ hm, CH⟩
theorem use_game {A : Around} {s : Shared} {f r : Addr} {o : Obj} {args : List Value} {R : List Int} {Q E : Value → Shared → Prop} {h₀ : Heap} {L : Addr} {m : Str → Option Value} {news : List (Addr × Obj)} (rest : List (Addr × Obj)) (C : GCtr prog w A s f args r R) (F : Fr h₀ L s.heap m) (N : News h₀ L s.heap news) (hm : (r, o) ∈ news) (hr : ∀ q ∈ rest, q ∈ news ∧ q.1 ≠ r)
    (h : ∀ D vs k ps' h' tk', Fr h₀ L h' m → News h₀ L h' ((D, PySem.W.listOf (List.toArray vs) k) :: (r, tabObj ps') :: rest) → (∀ q ∈ rest, q.1 ≠ D) → D ≠ r → IntsAre vs R → Q (.ref D) { s with heap := h', toks := tk' }) : wpAny (model prog w) A (call (.ref f) args []) Q E s := by
  refine wpAny_mono C (fun v s' q => ?_) (fun _ _ x => x.elim)
  obtain ⟨h', tk', D, vs, k, ps', rfl, rfl, hDr, hDn, hb, hr', hD', hi⟩ := q
  have D1 := (N _ hm).2
  have F' : Fr h₀ L h' m := ⟨F.ns.at' fun o' e => hb _ o' (Ne.symm D1.1) e, fun b o' e => hb b o' (fun q => by rw [q, D1.2] at e; cases e) (F.keep b o' e), F.above⟩
  refine h D vs k ps' h' tk' F' (fun q hq => ?_) (fun q hq e => ?_) hDr hi
  · rcases List.mem_cons.mp hq with rfl | hq
    · refine ⟨hD', fun e => ?_, ?_⟩
      · obtain ⟨oL, _, _, hL, _⟩ := F.ns
        rw [show D = L from e, hL] at hDn; cases hDn
      · cases q : h₀.get? D with
        | none => rfl
        | some o => rw [F.keep _ _ q] at hDn; cases hDn
    · rcases List.mem_cons.mp hq with rfl | hq
      · exact ⟨hr', D1⟩
      · have z := hr q hq
        exact ⟨hb _ _ z.2 (N _ z.1).1, (N _ z.1).2⟩
  · have := (N q (hr q hq).1).1
    rw [e, hDn] at this; cases this
theorem game_all : ∀ c, 4 ≤ c → c ≤ 6 → gameN c = (List.range c).map worth := by
  intro c h4 h6
  have : c = 4 ∨ c = 5 ∨ c = 6 := by omega
  rcases this with rfl | rfl | rfl <;> decide +kernel
theorem draw_nat (n : Int) : ∃ d : Nat, n.fmod (10 ^ Int.toNat 6) = (d : Int) ∧ d < 10 ^ 6 := by
  have h1 : (10 : Int) ^ Int.toNat 6 = 1000000 := by decide
  rw [h1, Int.fmod_eq_emod_of_nonneg _ (by omega)]
  exact ⟨(n % 1000000).toNat, by omega, by omega⟩
theorem lay_lawA_1 : True := by
  (k_with "call ref" => (k_here; (with_reducible show wpAny _ _ (call (Value.ref 123) _) _ _ _); (refine' use_int (worth_n (by k_extra "MY at") (by omega)) (by k_asm) (by k_asm) ?_); k_extra "MY got"))
  trivial
theorem stage0 (next : Stage prog w p loose mean mg mb 3 (fun g L h s m news => ∃ l vs ns oD xD ps d td, m (Str.ofString "script") = some (.ref l) ∧ m (Str.ofString "draw") = some (.int ((d : Nat) : Int) td) ∧ g.IsList l vs.toArray ∧ IntsAre vs ns ∧ ns.length ≤ 63 ∧ news = [(L + 1, oD), (125, tabObj ps)] ∧ oD.data = .cell xD)) :
    Stage prog w p loose mean mg mb 0 (fun g L h s m news => ∃ l vs ns oD xD, m (Str.ofString "script") = some (.ref l) ∧ g.IsList l vs.toArray ∧ IntsAre vs ns ∧ ns.length ≤ 63 ∧ news = [(L + 1, oD), (125, tabObj #[])] ∧ oD.data = .cell xD) := by
  k_extra "MY stage"
  rintro dp un gd outer base g L fa cd h m news s tk B X T CH hd hu hL F N ⟨l, vs, ns, oD, xD, e1, hl, hi, hn, rfl, eD⟩
  replace F := expose1 F e1
  (try dsimp only [List.drop])
  (try k_unmd)
  k_fold
  k_extra "MY steps"
  rename Fr _ _ _ _ => F1
  rename News _ _ _ _ => N1
  obtain ⟨d, hd1, hd2⟩ := draw_nat ns.sum
  have hcount : 6 - ((d : Int)).fmod 3 = ((6 - d % 3 : Nat) : Int) := by rw [Int.fmod_eq_emod_of_nonneg _ (by omega)]; omega
  rw [hd1, hcount] at F1
  generalize hc : 6 - d % 3 = c at F1
  have hc4 : 4 ≤ c := by omega
  have hc6 : c ≤ 6 := by omega
  refine LCg.ListComp_U (cl := []) F1 (by with_unfolding_all rfl) (by decide) rfl (by decide) rfl ?_ (by intro _; rfl)
  k_extra "MY steps"
  rename Fr _ _ _ _ => F5
  rename News _ _ _ _ => N5
  rename IsRange _ _ _ _ _ _ _ _ => R5
  refine LCg.CompSrc.range rfl F5 N5 R5 (small_one (by omega) (by omega) (by omega) (by omega)) (rangeSize_nat _ _) (by rw [sizeLine_eq]; omega) ?_
  intro g'
  refine crest (fun k y => ∃ t, y = .int ((worth k : Nat) : Int) t) trivial ?_ ?_
  · clear F5 N5 R5
    rintro k v C m₂ h5 tk5 hk ⟨tk6, rfl⟩ hC hx F N
    rw [show (0 : Int) + (k : Int) = (k : Int) by omega] at hx
    k_extra "MY steps"
    exact ⟨grown_refl (by assumption), _, rfl⟩
  · clear F5 N5 R5
    intro ys hys hrel D h5 tk5 F5 N5 fD
    rw [show ((c : Int) - 0).toNat = c by omega] at hys
    have hiY := ints_rel hys hrel
    k_extra "MY steps"
    have fD' : D ≠ 125 ∧ D ≠ L + 1 := by
      simp only [LCg.Off1] at fD
      exact ⟨fun e => by simp [e] at fD, fun e => by simp [e] at fD⟩
    have fDa := neN fD'.1
    have fDb := neN fD'.2
    replace hL := ltN hL
    refine use_game [(D, LCg.lst ys), (L + 1, oD)] (game_c (p := p) (loose := loose) (mean := mean) (mg := mg) (mb := mb) hc6 (AtG.of B F5 X T CH N5 (.tail _ (.tail _ (.head _))) rfl rfl rfl rfl (by k_extra "MY room") (by k_extra "MY room"))) F5 N5 (.tail _ (.tail _ (.head _))) ?_ ?_
    · intro q hq
      rcases List.mem_cons.mp hq with rfl | hq
      · exact ⟨.head _, fD'.1⟩
      · rw [List.mem_singleton.mp hq]
        exact ⟨.tail _ (.head _), neN (by dsimp only; omega)⟩
    · clear F5 N5
      intro D2 vs2 k2 ps2 h6 tk6 F6 N6 nD2 nD2' hi2
      rw [game_all c hc4 hc6] at hi2
      simp only [List.forall_mem_cons] at nD2
      obtain ⟨nd1, nd2, _⟩ := nD2
      replace nd1 := neN nd1
      replace nd2 := neN nd2
      replace nD2' := neN nD2'
      have hlw : (zs ((List.range c).map worth)).length < 1000 := by rw [zs_length, List.length_map, List.length_range]; omega
      k_extra "MY steps2"
      have U := Stage.use next (by k_is)
      exact U dp un gd outer base g L fa cd h6 _ [(L + 1, oD), (125, tabObj ps2)] s _ B X T CH hd hu hL F6 (fun p hp => N6 p (by
        rcases List.mem_cons.mp hp with rfl | hp
        · exact .tail _ (.tail _ (.tail _ (.head _)))
        · rw [List.mem_singleton.mp hp]; exact .tail _ (.head _))) ⟨l, vs, ns, oD, xD, ps2, d, _, rfl, rfl, hl, hi, hn, rfl, eD⟩
end
end
/-! part WuLawB -/
noncomputable section
theorem reset_WuLawB : True := by
  w_top off
  k_with_none
  (k_with "MY got" => (intro _ _ _ _ _ _; (try dsimp only); (try k_sweep)))
  (k_with "MY gotb" => (intro _ _ _ _ _; (try dsimp only); (try k_sweep)))
  (k_with "MY abs" => (refine abs_post ?_; intro _ _))
  (k_with "MY end" => ((fail_if_success (with_reducible show wpAny _ _ _ _ _ _)); (first | with_reducible refine TSeq.next (by assumption) _ ?_ | with_reducible refine TSeq.ret (by assumption) _ _ ?_ | with_reducible refine AbsQ.of (by assumption) _ _ ?_); (try dsimp only)))
  (k_with "execs cons" => (k_here; (try k_gentoks); (try k_made); (with_reducible refine seq_abs ?_); intro _ _; (try dsimp only)))
  (k_with "MY enter" => (
  intro _ _ _ _ _ _ _ _ _ _ _ _ _ _ _ _ _
  (try dsimp only)
  k_fold
  (try k_extra "MY abs")))
  (k_with "MY stop" => (
  (fail_if_success (with_reducible show Exists _));
  (fail_if_success (with_reducible show LCt.CompSrcT _ _ _ _ _ _ _ _ _ _ _ _ _ _ _));
  (fail_if_success (with_reducible show LCg.CompSrc _ _ _ _ _ _ _ _ _ _ _ _ _ _));
  (first | (with_reducible show Frag.In _ _ ∧ _) | (with_reducible show FnAt _ _ ∧ _) | (fail_if_success (with_reducible show And _ _)));
  (fail_if_success (with_reducible show wpAny _ _ (eval (Expr.ListComp _ _ _ _) _) _ _ _));
  (fail_if_success (with_reducible show wpAny _ _ (pyIter _) _ _ _));
  (fail_if_success (with_reducible show wpAny _ _ (exec (Stmt.Assign _ (Expr.ListComp _ _ _ _) _) _) _ _ _));
  (fail_if_success (with_reducible show wpAny _ _ (exec (Stmt.While _ _ _ _) _) _ _ _));
  (fail_if_success (with_reducible show wpAny _ _ (exec (Stmt.For _ _ _ _ _) _) _ _ _))))
  (k_with "MY one" => first
  | k_extra "MY end"
  | (k_unfold; (try dsimp only))
  | walk1
  | (dsimp only; walk1)
  | (dsimp only; k_unfold; (try dsimp only))
  | (leave1; walk_say "STEP leave1"; try dsimp only)
  | fail "no step")
  (k_with "MY steps" => w_strict (repeat' (k_extra "MY stop"; k_extra "MY one")))
  (k_with "MY at" => (exact At.of (by k_asm) (by k_asm) (by k_asm) (by k_asm) (by exact rfl) (by exact rfl) (by exact rfl) (by exact rfl) (by k_extra "MY room") (by k_extra "MY room")))
  (k_with "MY room" => first | decide | ((try dsimp only [Around.deeper]); first | with_reducible exact roomD (by assumption) (by decide) | with_reducible exact roomD2 (by assumption) (by decide) | with_reducible exact roomU (by assumption) (by decide) | with_reducible exact roomU2 (by assumption) (by decide) | omega))
  (k_with "MY stage" => (
  refine ⟨_, _, _, _, _, _, _, _, _, _, _, _, _, _, _, by k_is, ?_⟩))
  (k_with "MY steps2" => w_strict (repeat' (k_extra "MY stop"; (fail_if_success (with_reducible show wpAny _ _ (execs (Stmt.For _ _ _ _ _ :: _) _) _ _ _)); k_extra "MY one")))
  (k_with "MY sub" => first | exact sub_nil | exact sub_cons (by k_mem) (by k_extra "MY sub"))
  (k_with "MY off" => first | exact trivial | exact And.intro (by k_ne) (by k_extra "MY off"))
  trivial
theorem worth_ge (n : Nat) : 2 * n ≤ worth n := by unfold worth; omega
theorem worth_lt {a b : Nat} (h : a < b) : worth a < worth b := by have := worth_le a; have := worth_ge b; omega
def dueN (y : Nat) : Nat := y / 2 + if y % 2 = 1 ∧ worth (y / 2) ≠ y then 1 else 0
theorem due_all : ((List.range 256).all fun y => (List.range y).countP (fun k => decide (worth k < y)) == dueN y) = true := by decide +kernel
theorem due_ok {y : Nat} (h : y < 256) : ((zs (List.range y)).map wo).countP (fun v => decide (v < (y : Int))) = dueN y := by
  have := List.all_eq_true.mp due_all y (List.mem_range.mpr h)
  rw [beq_iff_eq] at this
  rw [← this, List.map_map, List.countP_map]
  congr 1
  funext k
  simp [wo]
theorem wo_sorted (y : Nat) : ((zs (List.range y)).map wo).Pairwise (· ≤ ·) := by
  rw [List.map_map, List.pairwise_map]
  exact List.pairwise_lt_range.imp fun {a b} h => by
    have := worth_lt h
    simp [wo]; omega
theorem lay_lawB_1 : True := by
  (k_with "call ref" => (k_here; (with_reducible show wpAny _ _ (call (Value.ref 123) _) _ _ _); (refine' use_int (worth_n (by k_extra "MY at") (by omega)) (by k_asm) (by k_asm) ?_); k_extra "MY got"))
  (k_with "call ref" => (k_here; (with_reducible show wpAny _ _ (call (Value.ref 35) _) _ _ _); (refine' use_int (floordiv_n (by k_extra "MY at") (by omega)) (by k_asm) (by k_asm) ?_); k_extra "MY got"))
  trivial
theorem mod_nat (a b : Nat) (hb : 0 < b) : Int.fmod (a : Int) (b : Int) = ((a % b : Nat) : Int) := by rw [Int.fmod_eq_emod_of_nonneg _ (by omega)]; omega
section
variable {prog : Program} {w : World} {p : Program} {loose : List Str} {mean : ExcName → Option Value} {mg mb : Str → Option Value}
theorem stage3 (next : Stage prog w p loose mean mg mb 4 (fun g L h s m news => ∃ l vs ns oD xD ps, m (Str.ofString "script") = some (.ref l) ∧ g.IsList l vs.toArray ∧ IntsAre vs ns ∧ ns.length ≤ 63 ∧ news = [(L + 1, oD), (125, tabObj ps)] ∧ oD.data = .cell xD)) :
    Stage prog w p loose mean mg mb 3 (fun g L h s m news => ∃ l vs ns oD xD ps d td, m (Str.ofString "script") = some (.ref l) ∧ m (Str.ofString "draw") = some (.int ((d : Nat) : Int) td) ∧ g.IsList l vs.toArray ∧ IntsAre vs ns ∧ ns.length ≤ 63 ∧ news = [(L + 1, oD), (125, tabObj ps)] ∧ oD.data = .cell xD) := by
  k_extra "MY stage"
  rintro dp un gd outer base g L fa cd h m news s tk B X T CH hd hu hL F N ⟨l, vs, ns, oD, xD, ps, d, td, e1, e2, hl, hi, hn, rfl, eD⟩
  replace F := expose2 F e1 e2
  replace hL := ltN hL
  (try dsimp only [List.drop])
  (try k_unmd)
  k_fold
  k_extra "MY steps"
  rename Fr _ _ _ _ => F1
  refine For_invVF F1 rfl rfl ?_ (by intro _; rfl) PassesOwn.never
  k_extra "MY steps"
  rename Fr _ _ _ _ => F1
  rename News _ _ _ _ => N1
  have q1 : Int.fmod (d : Int) 256 = ((d % 256 : Nat) : Int) := mod_nat d 256 (by omega)
  have q2 : Int.fmod ((d : Int) + 77) 256 = (((d + 77) % 256 : Nat) : Int) := mod_nat (d + 77) 256 (by omega)
  rw [q1, q2] at N1
  rename_i lv hv lt
  have hiY : IntsAre [Value.int ((d % 256 : Nat) : Int) (tk + 1), Value.int (((d + 77) % 256 : Nat) : Int) (tk + 1 + 1 + 1 + 1 + 1)] (zs [d % 256, (d + 77) % 256]) := .cons _ _ (.cons _ _ .nil)
  refine loop_list (l := lv) (vs := [Value.int ((d % 256 : Nat) : Int) (tk + 1), Value.int (((d + 77) % 256 : Nat) : Int) (tk + 1 + 1 + 1 + 1 + 1)]) (fun i m nx => nx = [(lv, PySem.W.listOf (List.toArray [Value.int ((d % 256 : Nat) : Int) (tk + 1), Value.int (((d + 77) % 256 : Nat) : Int) (tk + 1 + 1 + 1 + 1 + 1)]) 0), (L + 1, oD), (125, tabObj ps)] ∧ m (Str.ofString "script") = some (.ref l)) rfl (.inr ⟨0, .head _, by rintro i m nx ⟨rfl, _⟩; exact .head _⟩) F1 N1 ⟨rfl, rfl⟩ ?_ ?_
  · clear F1 N1
    rintro i v m₁ nx h₁ tk₁ I oI TT hTT hv1 _ hoff ⟨rfl, e1⟩ F₁ N₁
    obtain ⟨y, t7, hy, rfl⟩ := zs_get hiY hv1
    have hy256 : y < 256 := by
      have := List.mem_of_getElem? hy
      rcases List.mem_cons.mp this with rfl | this
      · omega
      · rw [List.mem_singleton.mp this]; omega
    clear hv1 hy
    replace F₁ := expose2 F₁ (x1 := Str.ofString "y") rfl (x2 := Str.ofString "script") e1
    have q3 : Int.fmod (y : Int) 2 = ((y % 2 : Nat) : Int) := mod_nat y 2 (by omega)
    k_extra "MY steps"
    all_goals
      rename Fr _ _ _ _ => F2
      rename News _ _ _ _ => N2
      rename IntsAre _ (rangeKs _ _) => hiR
      show wpAny _ _ (call (.ref 104) [.ref _, .int (y : Int) _] [(Str.ofString "key", .ref 123)]) _ _ _
      refine use_intK (bisect_left_key (p := p) (loose := loose) (mean := mean) (mg := mg) (mb := mb) (ns := zs (List.range y)) (At.of (by assumption) F2 (by assumption) (by assumption) rfl rfl rfl rfl (by k_extra "MY room") (by k_extra "MY room")) (isl_mem N2 (.head _)) (range_zs hiR) (by rw [zs_length, List.length_range]; omega) ?_ (wo_sorted y)) F2 N2 ?_
      · intro n hn
        obtain ⟨k, hk, rfl⟩ := List.mem_map.mp hn
        have := List.mem_range.mp hk
        omega
      rename_i lD _
      clear F2 N2 hiR
      intro t8 h8 tk8 st8 F8 N8
      rw [due_ok hy256]
    · have hdue : ((dueN y : Nat) : Int) = ((y / 2 : Nat) : Int) + 1 := by
        rename Int.fmod _ _ = 1 => c1
        rename ((worth (y / 2) : Nat) : Int) ≠ _ => c2
        unfold dueN
        rw [if_pos ⟨by omega, by omega⟩]; omega
      rw [hdue]
      k_extra "MY steps"
      all_goals first
        | exact tturn hTT [(lv, _), (L + 1, oD), (125, tabObj ps)] (by assumption) (by assumption) (fun p hp => .tail _ hp) rfl ⟨rfl, rfl⟩
        | (exfalso; omega)
    · have hdue : ((dueN y : Nat) : Int) = ((y / 2 : Nat) : Int) + 0 := by
        rename ((worth (y / 2) : Nat) : Int) = _ => c2
        unfold dueN
        rw [if_neg (fun h => h.2 (by omega))]; omega
      rw [hdue]
      k_extra "MY steps"
      all_goals first
        | exact tturn hTT [(lv, _), (L + 1, oD), (125, tabObj ps)] (by assumption) (by assumption) (fun p hp => .tail _ hp) rfl ⟨rfl, rfl⟩
        | (exfalso; omega)
    · have hdue : ((dueN y : Nat) : Int) = ((y / 2 : Nat) : Int) + 0 := by
        rename Int.fmod _ _ ≠ 1 => c1
        unfold dueN
        rw [if_neg (fun h => c1 (by omega))]; omega
      rw [hdue]
      k_extra "MY steps"
      all_goals first
        | exact tturn hTT [(lv, _), (L + 1, oD), (125, tabObj ps)] (by assumption) (by assumption) (fun p hp => .tail _ hp) rfl ⟨rfl, rfl⟩
        | (exfalso; omega)
  · clear F1 N1
    rintro m₁ nx h₁ tk₁ _ ⟨rfl, e1⟩ F₁ N₁
    (try k_extra "MY end")
    have U := Stage.use next (by k_is)
    exact U dp un gd outer base g L fa cd h₁ m₁ [(L + 1, oD), (125, tabObj ps)] s tk₁ B X T CH hd hu hL F₁ (fun p hp => N₁ p (.tail _ hp)) ⟨l, vs, ns, oD, xD, ps, e1, hl, hi, hn, rfl, eD⟩
end
end
/-! part WuLawC -/
noncomputable section
theorem reset_WuLawC : True := by
  w_top off
  k_with_none
  (k_with "MY got" => (intro _ _ _ _ _ _; (try dsimp only); (try k_sweep)))
  (k_with "MY gotb" => (intro _ _ _ _ _; (try dsimp only); (try k_sweep)))
  (k_with "MY abs" => (refine abs_post ?_; intro _ _))
  (k_with "MY end" => ((fail_if_success (with_reducible show wpAny _ _ _ _ _ _)); (first | with_reducible refine TSeq.next (by assumption) _ ?_ | with_reducible refine TSeq.ret (by assumption) _ _ ?_ | with_reducible refine AbsQ.of (by assumption) _ _ ?_); (try dsimp only)))
  (k_with "execs cons" => (k_here; (try k_gentoks); (try k_made); (with_reducible refine seq_abs ?_); intro _ _; (try dsimp only)))
  (k_with "MY enter" => (
  intro _ _ _ _ _ _ _ _ _ _ _ _ _ _ _ _ _
  (try dsimp only)
  k_fold
  (try k_extra "MY abs")))
  (k_with "MY stop" => (
  (fail_if_success (with_reducible show Exists _));
  (fail_if_success (with_reducible show LCt.CompSrcT _ _ _ _ _ _ _ _ _ _ _ _ _ _ _));
  (fail_if_success (with_reducible show LCg.CompSrc _ _ _ _ _ _ _ _ _ _ _ _ _ _));
  (first | (with_reducible show Frag.In _ _ ∧ _) | (with_reducible show FnAt _ _ ∧ _) | (fail_if_success (with_reducible show And _ _)));
  (fail_if_success (with_reducible show wpAny _ _ (eval (Expr.ListComp _ _ _ _) _) _ _ _));
  (fail_if_success (with_reducible show wpAny _ _ (pyIter _) _ _ _));
  (fail_if_success (with_reducible show wpAny _ _ (exec (Stmt.Assign _ (Expr.ListComp _ _ _ _) _) _) _ _ _));
  (fail_if_success (with_reducible show wpAny _ _ (exec (Stmt.While _ _ _ _) _) _ _ _));
  (fail_if_success (with_reducible show wpAny _ _ (exec (Stmt.For _ _ _ _ _) _) _ _ _))))
  (k_with "MY one" => first
  | k_extra "MY end"
  | (k_unfold; (try dsimp only))
  | walk1
  | (dsimp only; walk1)
  | (dsimp only; k_unfold; (try dsimp only))
  | (leave1; walk_say "STEP leave1"; try dsimp only)
  | fail "no step")
  (k_with "MY steps" => w_strict (repeat' (k_extra "MY stop"; k_extra "MY one")))
  (k_with "MY at" => (exact At.of (by k_asm) (by k_asm) (by k_asm) (by k_asm) (by exact rfl) (by exact rfl) (by exact rfl) (by exact rfl) (by k_extra "MY room") (by k_extra "MY room")))
  (k_with "MY room" => first | decide | ((try dsimp only [Around.deeper]); first | with_reducible exact roomD (by assumption) (by decide) | with_reducible exact roomD2 (by assumption) (by decide) | with_reducible exact roomU (by assumption) (by decide) | with_reducible exact roomU2 (by assumption) (by decide) | omega))
  (k_with "MY stage" => (
  refine ⟨_, _, _, _, _, _, _, _, _, _, _, _, _, _, _, by k_is, ?_⟩))
  (k_with "MY steps2" => w_strict (repeat' (k_extra "MY stop"; (fail_if_success (with_reducible show wpAny _ _ (execs (Stmt.For _ _ _ _ _ :: _) _) _ _ _)); k_extra "MY one")))
  (k_with "MY sub" => first | exact sub_nil | exact sub_cons (by k_mem) (by k_extra "MY sub"))
  (k_with "MY off" => first | exact trivial | exact And.intro (by k_ne) (by k_extra "MY off"))
  trivial
theorem tog_ok {l : List Nat} (hl : l.Pairwise (· < ·)) (v : Nat) : (tog l v).Pairwise (· < ·) ∧ (tog l v).length ≤ l.length + 1 := by
  by_cases hq : (l.drop (l.countP (· < v))).head? = some v
  · rw [tog, if_pos hq]
    refine ⟨hl.sublist (List.eraseIdx_sublist ..), ?_⟩
    have := List.length_eraseIdx_le l (l.countP (· < v))
    omega
  · have := insN_ok hl v
    rw [insN, if_neg hq] at this
    rw [tog, if_neg hq]; exact this
theorem togs_ok : ∀ {ps l : List Nat}, l.Pairwise (· < ·) → (ps.foldl tog l).Pairwise (· < ·) ∧ (ps.foldl tog l).length ≤ l.length + ps.length
  | [], l, hl => ⟨hl, Nat.le_refl _⟩
  | v :: ps, l, hl => by
    have h1 := tog_ok hl v
    have h2 := togs_ok (ps := ps) h1.1
    exact ⟨h2.1, by rw [List.length_cons]; have := h2.2; rw [List.foldl_cons]; omega⟩
theorem mod_int (a : Int) (b : Nat) (hb : 0 < b) : Int.fmod a (b : Int) = (((a % (b : Int)).toNat : Nat) : Int) := by
  rw [Int.fmod_eq_emod_of_nonneg _ (by omega)]
  have := Int.emod_nonneg a (show (b : Int) ≠ 0 by omega)
  omega
section
variable {prog : Program} {w : World} {p : Program} {loose : List Str} {mean : ExcName → Option Value} {mg mb : Str → Option Value}
theorem stage4 (next : Stage prog w p loose mean mg mb 7 (fun g L h s m news => ∃ l vs ns rd vsD nD r vsR nR oD ps D, m (Str.ofString "script") = some (.ref l) ∧ m (Str.ofString "row") = some (.ref r) ∧ g.IsList l vs.toArray ∧ IntsAre vs ns ∧ ns.length ≤ 63 ∧ news = [(r, PySem.W.listOf (List.toArray vsR) nR), (rd, PySem.W.listOf (List.toArray vsD) nD), (L + 1, oD), (125, tabObj ps)] ∧ oD.data = .cell (some (.ref rd)) ∧ IntsAre vsD (zs D) ∧ IntsAre vsR (zs (D.foldl tog [])) ∧ D.length ≤ 7 ∧ (∀ x ∈ D, x < 2 ^ 20) ∧ r ≠ rd ∧ L + 1 < r ∧ rd ≠ L + 1)) :
    Stage prog w p loose mean mg mb 4 (fun g L h s m news => ∃ l vs ns oD xD ps, m (Str.ofString "script") = some (.ref l) ∧ g.IsList l vs.toArray ∧ IntsAre vs ns ∧ ns.length ≤ 63 ∧ news = [(L + 1, oD), (125, tabObj ps)] ∧ oD.data = .cell xD) := by
  k_extra "MY stage"
  rintro dp un gd outer base g L fa cd h m news s tk B X T CH hd hu hL F N ⟨l, vs, ns, oD, xD, ps, e1, hl, hi, hn, rfl, eD⟩
  replace F := expose1 F e1
  replace hL := ltN hL
  (try dsimp only [List.drop])
  (try k_unmd)
  k_fold
  k_extra "MY steps"
  w_strict (walk1)
  rename Fr _ _ _ _ => F1
  refine LCg.ListComp_U (cl := []) F1 (by with_unfolding_all rfl) (by decide) rfl (by decide) rfl ?_ (by intro _; rfl)
  k_extra "MY steps"
  rename Fr _ _ _ _ => F5
  rename News _ _ _ _ => N5
  rename IntsAre _ (_ ++ _) => hiX
  have hxl : (List.take 4 ns ++ [6, 25, 1000]).length ≤ 7 := by simp; omega
  generalize hxs : List.take 4 ns ++ [6, 25, 1000] = xs at hiX hxl
  have hwl := hiX.length
  refine LCg.CompSrc.ledger (by rfl) F5 N5 (.head _) (by rw [sizeLine_eq]; simp; omega) ?_
  intro g'
  refine crest (n := _) (fun k y => ∃ t, y = .int ((((xs.getD k 0) % ((2 ^ 20 : Nat) : Int)).toNat : Nat) : Int) t) ?_ ?_ ?_
  · exact .inr ⟨_, .head _, rfl, _, rfl⟩
  · clear F5 N5
    rintro k v C m₂ h5 tk5 hk hv hC hx F N
    obtain ⟨t9, rfl⟩ := IntsAre.int_at hiX k v (by simpa using hv)
    k_extra "MY steps"
    refine ⟨⟨_, _, rfl, fun _ _ e => e⟩, ?_⟩
    rw [show ((16 : Int) ^ Int.toNat 5) = ((2 ^ 20 : Nat) : Int) by decide, mod_int _ _ (by decide)]
    exact ⟨_, rfl⟩
  · clear F5 N5
    intro ys hys hrel D5 h5 tk5 F5 N5 fD
    have hiY := ints_rel hys hrel
    have hyl : ys.length ≤ 7 := by rw [hys, List.size_toArray]; omega
    obtain ⟨D, hD⟩ : ∃ D, D = (List.range ys.length).map fun k => (xs.getD k 0 % ((2 ^ 20 : Nat) : Int)).toNat := ⟨_, rfl⟩
    have hDl : D.length ≤ 7 := by rw [hD, List.length_map, List.length_range]; exact hyl
    have hDb : ∀ x ∈ D, x < 2 ^ 20 := by
      intro x hx
      rw [hD] at hx
      obtain ⟨k, _, rfl⟩ := List.mem_map.mp hx
      have h1 := Int.emod_lt_of_pos (xs.getD k 0) (show (0 : Int) < ((2 ^ 20 : Nat) : Int) by decide)
      omega
    rw [hys] at hD
    rw [← hD] at hiY
    have fD1 : D5 ≠ L + 1 := fun e => by simp [LCg.Off1, e] at fD
    replace fD1 := neN fD1
    k_extra "MY steps"
    rename_i ha oD' eD' r hb lr hc F1 N1 _ _
    replace N1 : News g L _ [(r, PySem.W.listOf (List.toArray []) 0), (D5, PySem.W.listOf (List.toArray ys) ys.length), (L + 1, oD'), (125, tabObj ps)] := fun p hp => N1 p (by
      rcases List.mem_cons.mp hp with rfl | hp
      · exact .head _
      · rcases List.mem_cons.mp hp with rfl | hp
        · exact .tail _ (.head _)
        · exact .tail _ (.tail _ (.tail _ (.tail _ (.tail _ (.tail _ hp))))))
    have r1 := ltN lr.1
    have r2 := ltN lr.2.2.2.2.2.1
    have r3 := ltN lr.2.2.2.2.2.2
    clear lr fD
    refine For_invVF F1 rfl rfl ?_ (by intro _; rfl) PassesOwn.never
    k_extra "MY steps"
    refine loop_list (l := D5) (vs := ys) (fun i m nx => ∃ vsR nR, nx = [(r, PySem.W.listOf (List.toArray vsR) nR), (D5, PySem.W.listOf (List.toArray ys) ys.length), (L + 1, oD'), (125, tabObj ps)] ∧ IntsAre vsR (zs ((D.take i).foldl tog [])) ∧ m (Str.ofString "script") = some (.ref l) ∧ m (Str.ofString "row") = some (.ref r)) rfl (.inr ⟨_, .tail _ (.head _), by rintro i m nx ⟨vsR, nR, rfl, _⟩; exact .tail _ (.head _)⟩) F1 N1 ⟨[], 0, rfl, .nil, rfl, rfl⟩ ?_ ?_
    · clear F1 N1
      rintro i v m₁ nx h₁ tk₁ I oI TT hTT hv1 _ hoff ⟨vsR, nR, rfl, hiR, e1, e2⟩ F₁ N₁
      obtain ⟨x, t7, hx, rfl⟩ := zs_get hiY hv1
      have hxb := hDb x (List.mem_of_getElem? hx)
      have o1 : @Ne Nat r I := (offL hoff).1
      have hok := togs_ok (ps := D.take i) (l := []) .nil
      have hlR : ((D.take i).foldl tog []).length ≤ 7 := by have := hok.2; rw [List.length_take] at this; simp at this; omega
      have hnext : (D.take (i + 1)).foldl tog [] = tog ((D.take i).foldl tog []) x := by
        rw [List.take_add_one, hx, List.foldl_append]; rfl
      replace F₁ := expose3 F₁ (x1 := Str.ofString "place") rfl (x2 := Str.ofString "script") e1 (x3 := Str.ofString "row") e2
      k_extra "MY steps"
      rename Fr _ _ _ _ => F2
      rename News _ _ _ _ => N2
      refine use_mut [(I, oI), (D5, PySem.W.listOf (List.toArray ys) ys.length), (L + 1, oD'), (125, tabObj ps)] (turn_c (p := p) (loose := loose) (mean := mean) (mg := mg) (mb := mb) (AtM.of (by assumption) F2 (by assumption) (by assumption) N2 (.tail _ (.head _)) rfl rfl rfl rfl (by k_extra "MY room") (by k_extra "MY room")) hiR hok.1 (by omega)) F2 N2 (.tail _ (.head _)) ?_ ?_
      · intro q hq
        rcases List.mem_cons.mp hq with rfl | hq
        · exact ⟨.head _, Ne.symm o1⟩
        · refine ⟨.tail _ (.tail _ hq), ?_⟩
          rcases List.mem_cons.mp hq with rfl | hq
          · exact neN (by dsimp only; omega)
          · rcases List.mem_cons.mp hq with rfl | hq
            · exact neN (by dsimp only; omega)
            · rw [List.mem_singleton.mp hq]; exact neN (by dsimp only; omega)
      · clear F2 N2
        intro vs' n' h' tk' _ F2 N2 hi2
        k_extra "MY steps"
        refine tturn hTT [(r, PySem.W.listOf (List.toArray vs') n'), (D5, PySem.W.listOf (List.toArray ys) ys.length), (L + 1, oD'), (125, tabObj ps)] F2 N2 (fun p hp => ?_) rfl ⟨vs', n', rfl, by rw [hnext]; exact hi2, rfl, rfl⟩
        rcases List.mem_cons.mp hp with rfl | hp
        · exact .tail _ (.head _)
        · rcases List.mem_cons.mp hp with rfl | hp
          · exact .head _
          · exact .tail _ (.tail _ hp)
    · clear F1 N1
      rintro m₁ nx h₁ tk₁ _ ⟨vsR, nR, rfl, hiR, e1, e2⟩ F₁ N₁
      rw [List.take_of_length_le (by have := hiY.length; rw [zs_length] at this; omega)] at hiR
      (try k_extra "MY end")
      have U := Stage.use next (by k_is)
      exact U dp un gd outer base g L fa cd h₁ m₁ _ s tk₁ B X T CH hd hu hL F₁ N₁ ⟨l, vs, ns, D5, ys, _, r, vsR, nR, oD', ps, D, e1, e2, hl, hi, hn, rfl, eD', hiY, hiR, hDl, hDb, neN (by omega), r2, fD1⟩
end
end
/-! part WuLawG -/
noncomputable section
theorem reset_WuLawG : True := by
  w_top off
  k_with_none
  (k_with "MY got" => (intro _ _ _ _ _ _; (try dsimp only); (try k_sweep)))
  (k_with "MY gotb" => (intro _ _ _ _ _; (try dsimp only); (try k_sweep)))
  (k_with "MY abs" => (refine abs_post ?_; intro _ _))
  (k_with "MY end" => ((fail_if_success (with_reducible show wpAny _ _ _ _ _ _)); (first | with_reducible refine TSeq.next (by assumption) _ ?_ | with_reducible refine TSeq.ret (by assumption) _ _ ?_ | with_reducible refine AbsQ.of (by assumption) _ _ ?_); (try dsimp only)))
  (k_with "execs cons" => (k_here; (try k_gentoks); (try k_made); (with_reducible refine seq_abs ?_); intro _ _; (try dsimp only)))
  (k_with "MY enter" => (
  intro _ _ _ _ _ _ _ _ _ _ _ _ _ _ _ _ _
  (try dsimp only)
  k_fold
  (try k_extra "MY abs")))
  (k_with "MY stop" => (
  (fail_if_success (with_reducible show Exists _));
  (fail_if_success (with_reducible show LCt.CompSrcT _ _ _ _ _ _ _ _ _ _ _ _ _ _ _));
  (fail_if_success (with_reducible show LCg.CompSrc _ _ _ _ _ _ _ _ _ _ _ _ _ _));
  (first | (with_reducible show Frag.In _ _ ∧ _) | (with_reducible show FnAt _ _ ∧ _) | (fail_if_success (with_reducible show And _ _)));
  (fail_if_success (with_reducible show wpAny _ _ (eval (Expr.ListComp _ _ _ _) _) _ _ _));
  (fail_if_success (with_reducible show wpAny _ _ (pyIter _) _ _ _));
  (fail_if_success (with_reducible show wpAny _ _ (exec (Stmt.Assign _ (Expr.ListComp _ _ _ _) _) _) _ _ _));
  (fail_if_success (with_reducible show wpAny _ _ (exec (Stmt.While _ _ _ _) _) _ _ _));
  (fail_if_success (with_reducible show wpAny _ _ (exec (Stmt.For _ _ _ _ _) _) _ _ _))))
  (k_with "MY one" => first
  | k_extra "MY end"
  | (k_unfold; (try dsimp only))
  | walk1
  | (dsimp only; walk1)
  | (dsimp only; k_unfold; (try dsimp only))
  | (leave1; walk_say "STEP leave1"; try dsimp only)
  | fail "no step")
  (k_with "MY steps" => w_strict (repeat' (k_extra "MY stop"; k_extra "MY one")))
  (k_with "MY at" => (exact At.of (by k_asm) (by k_asm) (by k_asm) (by k_asm) (by exact rfl) (by exact rfl) (by exact rfl) (by exact rfl) (by k_extra "MY room") (by k_extra "MY room")))
  (k_with "MY room" => first | decide | ((try dsimp only [Around.deeper]); first | with_reducible exact roomD (by assumption) (by decide) | with_reducible exact roomD2 (by assumption) (by decide) | with_reducible exact roomU (by assumption) (by decide) | with_reducible exact roomU2 (by assumption) (by decide) | omega))
  (k_with "MY stage" => (
  refine ⟨_, _, _, _, _, _, _, _, _, _, _, _, _, _, _, by k_is, ?_⟩))
  (k_with "MY steps2" => w_strict (repeat' (k_extra "MY stop"; (fail_if_success (with_reducible show wpAny _ _ (execs (Stmt.For _ _ _ _ _ :: _) _) _ _ _)); k_extra "MY one")))
  (k_with "MY sub" => first | exact sub_nil | exact sub_cons (by k_mem) (by k_extra "MY sub"))
  (k_with "MY off" => first | exact trivial | exact And.intro (by k_ne) (by k_extra "MY off"))
  trivial
theorem asc_unique : ∀ {a b : List Int}, a.Pairwise (· < ·) → b.Pairwise (· < ·) → (∀ k, k ∈ a ↔ k ∈ b) → a = b
  | [], [], _, _, _ => rfl
  | [], y :: b, _, _, h => nomatch (h y).mpr (.head _)
  | x :: a, [], _, _, h => nomatch (h x).mp (.head _)
  | x :: a, y :: b, ha, hb, h => by
    obtain ⟨a1, a2⟩ := List.pairwise_cons.mp ha
    obtain ⟨b1, b2⟩ := List.pairwise_cons.mp hb
    have hxy : x = y := by
      have h1 := (h x).mp (.head _)
      have h2 := (h y).mpr (.head _)
      rcases List.mem_cons.mp h1 with q | q
      · exact q
      · rcases List.mem_cons.mp h2 with q' | q'
        · exact q'.symm
        · have := b1 x q; have := a1 y q'; omega
    subst hxy
    rw [asc_unique a2 b2 fun k => ⟨fun hk => ?_, fun hk => ?_⟩]
    · have := a1 k hk
      rcases List.mem_cons.mp ((h k).mp (.tail _ hk)) with q | q
      · omega
      · exact q
    · have := b1 k hk
      rcases List.mem_cons.mp ((h k).mpr (.tail _ hk)) with q | q
      · omega
      · exact q
theorem zs_asc {l : List Nat} (h : l.Pairwise (· < ·)) : (zs l).Pairwise (· < ·) := by
  rw [zs, List.pairwise_map]
  exact h.imp fun q => by omega
section
variable {prog : Program} {w : World} {p : Program} {loose : List Str} {mean : ExcName → Option Value} {mg mb : Str → Option Value}
theorem not_list_c {A : Around} {s : Shared} {l : Addr} {vs : List Value} {ns : List Int} (hat : At w p loose mean mg mb A 1 s.heap) (hl : s.heap.IsList l vs.toArray) (hi : IntsAre vs ns) (hf : ns.length < 2 ^ 20) :
    Ctr prog w A s 21 [.ref l] (BoolV (decide (ns = []))) := by
  refine enter_pure (dk := 0) (binds := [(Str.ofString "a", .ref l)]) hat (by k_is) (by k_is) (BindsTo.of_eq rfl) (locs rfl) rfl rfl rfl (by decide) ?_
  k_extra "MY enter"
  rename Heap.StaysIn _ _ => st
  have hlg := stays_list st hl
  k_extra "MY steps"
  exact cend_bool (by assumption) (by cases ns <;> simp)
theorem get_mem {h₀ h : Heap} {L a : Addr} {o : Obj} {news : List (Addr × Obj)} (N : News h₀ L h news) (hm : (a, o) ∈ news) : h.get? a = some o := (N _ hm).1
theorem lay_lawG_1 : True := by
  (k_with "call ref" => (k_here; (with_reducible show wpAny _ _ (call (Value.ref 21) _) _ _ _); (refine' use_bool (not_list_c (by k_extra "MY at") (by exact isl_mem (by k_asm) (by k_mem)) (by assumption) (by rw [zs_length]; omega)) (by k_asm) (by k_asm) ?_); k_extra "MY gotb"))
  trivial
theorem stage10 : Stage prog w p loose mean mg mb 10 (fun g L h s m news => ∃ rd vsD nD r vsR nR oD ps R, m (Str.ofString "row") = some (.ref r) ∧ news = [(r, PySem.W.listOf (List.toArray vsR) nR), (rd, PySem.W.listOf (List.toArray vsD) nD), (L + 1, oD), (125, tabObj ps)] ∧ IntsAre vsR (zs R) ∧ R.Pairwise (· < ·) ∧ R.length < 60) := by
  k_extra "MY stage"
  rintro dp un gd outer base g L fa cd h m news s tk B X T CH hd hu hL F N ⟨rd, vsD, nD, r, vsR, nR, oD, ps, R, e1, rfl, hiR, hR, hRl⟩
  replace F := expose1 F e1
  replace hL := ltN hL
  (try dsimp only [List.drop])
  (try k_unmd)
  k_fold
  k_extra "MY steps"
  rename Fr _ _ _ _ => F1
  rename News _ _ _ _ => N1
  refine set_of_list F1 N1 rfl (isl_mem N1 (.head _)) hiR (by rw [zs_length]; omega) ?_
  clear F1 N1
  intro S1 h1 tk1 o1 σ F1 N1 nS hS hnd hle hmem
  rw [zs_length] at hle
  k_extra "MY steps"
  refine sorted_set F1 N1 rfl (get_mem N1 (.head _)) hS hnd (by omega) ?_
  clear F1 N1
  intro S2 h2 tk2 vs2 ns2 c2 F2 N2 nS2 hi2 hasc hm2
  have e2 := asc_unique hasc (zs_asc hR) fun k => (hm2 k).trans (hmem k)
  subst e2
  k_extra "MY steps"
  rename Fr _ _ _ _ => F9
  rename News _ _ _ _ => N9
  refine ⟨by rw [beq_self_eq_true], L, _, _, _, ps, rfl, F9, fun q hq => ?_⟩
  rw [List.mem_singleton.mp hq]
  exact N9 _ (by k_mem)
end
end
/-! part WuPar -/
noncomputable section
theorem reset_WuPar : True := by
  w_top off
  k_with_none
  (k_with "MY got" => (intro _ _ _ _ _ _; (try dsimp only); (try k_sweep)))
  (k_with "MY gotb" => (intro _ _ _ _ _; (try dsimp only); (try k_sweep)))
  (k_with "MY abs" => (refine abs_post ?_; intro _ _))
  (k_with "MY end" => ((fail_if_success (with_reducible show wpAny _ _ _ _ _ _)); (first | with_reducible refine TSeq.next (by assumption) _ ?_ | with_reducible refine TSeq.ret (by assumption) _ _ ?_ | with_reducible refine AbsQ.of (by assumption) _ _ ?_); (try dsimp only)))
  (k_with "execs cons" => (k_here; (try k_gentoks); (try k_made); (with_reducible refine seq_abs ?_); intro _ _; (try dsimp only)))
  (k_with "MY enter" => (
  intro _ _ _ _ _ _ _ _ _ _ _ _ _ _ _ _ _
  (try dsimp only)
  k_fold
  (try k_extra "MY abs")))
  (k_with "MY stop" => (
  (fail_if_success (with_reducible show Exists _));
  (fail_if_success (with_reducible show LCt.CompSrcT _ _ _ _ _ _ _ _ _ _ _ _ _ _ _));
  (fail_if_success (with_reducible show LCg.CompSrc _ _ _ _ _ _ _ _ _ _ _ _ _ _));
  (first | (with_reducible show Frag.In _ _ ∧ _) | (with_reducible show FnAt _ _ ∧ _) | (fail_if_success (with_reducible show And _ _)));
  (fail_if_success (with_reducible show wpAny _ _ (eval (Expr.ListComp _ _ _ _) _) _ _ _));
  (fail_if_success (with_reducible show wpAny _ _ (pyIter _) _ _ _));
  (fail_if_success (with_reducible show wpAny _ _ (exec (Stmt.Assign _ (Expr.ListComp _ _ _ _) _) _) _ _ _));
  (fail_if_success (with_reducible show wpAny _ _ (exec (Stmt.While _ _ _ _) _) _ _ _));
  (fail_if_success (with_reducible show wpAny _ _ (exec (Stmt.For _ _ _ _ _) _) _ _ _))))
  (k_with "MY one" => first
  | k_extra "MY end"
  | (k_unfold; (try dsimp only))
  | walk1
  | (dsimp only; walk1)
  | (dsimp only; k_unfold; (try dsimp only))
  | (leave1; walk_say "STEP leave1"; try dsimp only)
  | fail "no step")
  (k_with "MY steps" => w_strict (repeat' (k_extra "MY stop"; k_extra "MY one")))
  (k_with "MY at" => (exact At.of (by k_asm) (by k_asm) (by k_asm) (by k_asm) (by exact rfl) (by exact rfl) (by exact rfl) (by exact rfl) (by k_extra "MY room") (by k_extra "MY room")))
  (k_with "MY room" => first | decide | ((try dsimp only [Around.deeper]); first | with_reducible exact roomD (by assumption) (by decide) | with_reducible exact roomD2 (by assumption) (by decide) | with_reducible exact roomU (by assumption) (by decide) | with_reducible exact roomU2 (by assumption) (by decide) | omega))
  (k_with "MY stage" => (
  refine ⟨_, _, _, _, _, _, _, _, _, _, _, _, _, _, _, by k_is, ?_⟩))
  (k_with "MY steps2" => w_strict (repeat' (k_extra "MY stop"; (fail_if_success (with_reducible show wpAny _ _ (execs (Stmt.For _ _ _ _ _ :: _) _) _ _ _)); k_extra "MY one")))
  (k_with "MY sub" => first | exact sub_nil | exact sub_cons (by k_mem) (by k_extra "MY sub"))
  (k_with "MY off" => first | exact trivial | exact And.intro (by k_ne) (by k_extra "MY off"))
  trivial
/-! parity of the ones of a number -/
noncomputable def par (n : Nat) : Nat := if h : n = 0 then 0 else (n % 2 + par (n / 2)) % 2
termination_by n
decreasing_by omega
theorem par_step (n : Nat) : par n = (n % 2 + par (n / 2)) % 2 := by
  by_cases h : n = 0
  · subst h; rw [par]; simp
  · conv => lhs; rw [par]
    rw [dif_neg h]
theorem par_zero : par 0 = 0 := by rw [par]; simp
theorem par_lt (n : Nat) : par n < 2 := by rw [par_step]; omega
def olet (b : Nat) : Nat := if oddLetter (UInt8.ofNat (65 + b)) then 1 else 0
theorem olet_all : ∀ b : Fin 16, olet b = (b.val % 2 + b.val / 2 % 2 + b.val / 4 % 2 + b.val / 8 % 2) % 2 := by decide +kernel
theorem oddB_zero : oddB 0 = 0 := by unfold oddB wordB; rw [digs_zero]; rfl
theorem oddB_step {n : Nat} (h : n ≠ 0) : oddB n = (oddB (n / 16) + olet (n % 16)) % 2 := by
  unfold oddB olet
  rw [wordB_step h, Array.toList_append, List.countP_append]
  show (List.countP oddLetter (wordB (n / 16)).toList + List.countP oddLetter [UInt8.ofNat (65 + n % 16)]) % 2 = _
  rw [List.countP_cons, List.countP_nil]
  generalize oddLetter (UInt8.ofNat (65 + n % 16)) = q
  cases q
  · show (_ + (0 + 0)) % 2 = (_ + 0) % 2; omega
  · show (_ + (0 + 1)) % 2 = (_ + 1) % 2; omega
theorem div2_16 (n : Nat) : n / 2 / 2 / 2 / 2 = n / 16 := by rw [Nat.div_div_eq_div_mul, Nat.div_div_eq_div_mul, Nat.div_div_eq_div_mul]
theorem sum5 (a b c d e : Nat) : (e + (a + b + c + d) % 2) % 2 = (a + (b + (c + (d + e) % 2) % 2) % 2) % 2 := by
  simp only [Nat.add_mod_mod]
  congr 1
  simp only [Nat.add_assoc, Nat.add_comm e]
theorem oddB_par : ∀ n, oddB n = par n := by
  intro n
  induction n using Nat.strongRecOn with
  | ind n ih =>
    by_cases h : n = 0
    · subst h; rw [oddB_zero, par_zero]
    · rw [oddB_step h, ih (n / 16) (Nat.div_lt_self (Nat.pos_of_ne_zero h) (by decide)), olet_all ⟨n % 16, Nat.mod_lt _ (by decide)⟩, par_step n, par_step (n / 2), par_step (n / 2 / 2), par_step (n / 2 / 2 / 2), div2_16]
      have e1 : n % 16 % 2 = n % 2 := Nat.mod_mod_of_dvd n (by decide)
      have e2 : n % 16 / 2 % 2 = n / 2 % 2 := by rw [show (16 : Nat) = 2 * 8 from rfl, Nat.mod_mul_right_div_self, Nat.mod_mod_of_dvd _ (by decide)]
      have e3 : n % 16 / 4 % 2 = n / 2 / 2 % 2 := by rw [show (16 : Nat) = 4 * 4 from rfl, Nat.mod_mul_right_div_self, Nat.mod_mod_of_dvd _ (by decide), Nat.div_div_eq_div_mul]
      have e4 : n % 16 / 8 % 2 = n / 2 / 2 / 2 % 2 := by rw [show (16 : Nat) = 8 * 2 from rfl, Nat.mod_mul_right_div_self, Nat.mod_mod, Nat.div_div_eq_div_mul, Nat.div_div_eq_div_mul]
      show (par (n / 16) + (n % 16 % 2 + n % 16 / 2 % 2 + n % 16 / 4 % 2 + n % 16 / 8 % 2) % 2) % 2 = _
      rw [e1, e2, e3, e4]
      exact sum5 _ _ _ _ _
theorem worth_par (n : Nat) : worth n = 2 * n + (1 - par n) := by
  unfold worth
  rw [oddB_par]
  have := par_lt n
  split <;> omega
theorem sum4 (a b c d e : Nat) : (a + (b + (c + e) % 2) % 2) % 2 = (e + (a + (b + (c + 0) % 2) % 2) % 2) % 2 := by
  simp only [Nat.add_mod_mod]
  congr 1
  simp only [Nat.add_assoc, Nat.add_comm e, Nat.add_zero]
theorem par_split8 (p : Nat) : par p = (par (p / 8) + par (p % 8)) % 2 := by
  rw [par_step p, par_step (p / 2), par_step (p / 2 / 2), par_step (p % 8), par_step (p % 8 / 2), par_step (p % 8 / 2 / 2)]
  have e1 : p / 2 / 2 / 2 = p / 8 := by rw [Nat.div_div_eq_div_mul, Nat.div_div_eq_div_mul]
  have e2 : p % 8 / 2 / 2 / 2 = 0 := by rw [Nat.div_div_eq_div_mul, Nat.div_div_eq_div_mul]; exact Nat.div_eq_of_lt (Nat.mod_lt _ (by decide))
  have f1 : p % 8 % 2 = p % 2 := Nat.mod_mod_of_dvd p (by decide)
  have f2 : p % 8 / 2 % 2 = p / 2 % 2 := by rw [show (8 : Nat) = 2 * 4 from rfl, Nat.mod_mul_right_div_self, Nat.mod_mod_of_dvd _ (by decide)]
  have f3 : p % 8 / 2 / 2 % 2 = p / 2 / 2 % 2 := by rw [Nat.div_div_eq_div_mul, show (8 : Nat) = 2 * 2 * 2 from rfl, Nat.mod_mul_right_div_self, Nat.mod_mod, Nat.div_div_eq_div_mul]
  rw [e1, e2, par_zero, f1, f2, f3]
  exact sum4 _ _ _ 0 _
def lettersOf (q : Nat) : List UInt8 := if q = 1 then [65, 68, 70, 71, 74, 75, 77, 80] else [66, 67, 69, 72, 73, 76, 78, 79]
theorem letter_all : ∀ q : Fin 2, ∀ b : Fin 8, (lettersOf q)[b.val]? = some (UInt8.ofNat (65 + (2 * b.val + (1 - (q.val + (b.val % 2 + b.val / 2 % 2 + b.val / 4 % 2) % 2) % 2)))) := by decide +kernel
theorem par_small {b : Nat} (h : b < 8) : par b = (b % 2 + b / 2 % 2 + b / 4 % 2) % 2 := by
  rw [par_step b, par_step (b / 2), par_step (b / 2 / 2)]
  have e : b / 2 / 2 / 2 = 0 := by omega
  have e3 : b / 4 = b / 2 / 2 := by omega
  rw [e, par_zero, e3]
  generalize b % 2 = b0, b / 2 % 2 = b1, b / 2 / 2 % 2 = b2
  omega
theorem word_worth (p : Nat) : wordB (worth p) = wordB (p / 8) ++ #[UInt8.ofNat (65 + (2 * (p % 8) + (1 - par p)))] := by
  have hw := worth_par p
  have h0 : worth p ≠ 0 := by
    rw [hw]
    by_cases h : p = 0
    · subst h; rw [par_zero]; omega
    · omega
  have := par_lt p
  rw [wordB_step h0, show worth p / 16 = p / 8 by omega, show worth p % 16 = 2 * (p % 8) + (1 - par p) by omega]
/-- the last letter of a head's word -/
theorem word_letter (p : Nat) : (lettersOf (oddB (p / 8)))[p % 8]? = some (UInt8.ofNat (65 + (2 * (p % 8) + (1 - par p)))) := by
  have h1 := par_lt (p / 8)
  have := letter_all ⟨par (p / 8), h1⟩ ⟨p % 8, by omega⟩
  rw [oddB_par, par_split8 p, par_small (show p % 8 < 8 by omega)]
  exact this
end
/-! part WuLawE -/
noncomputable section
theorem reset_WuLawE : True := by
  w_top off
  k_with_none
  (k_with "MY got" => (intro _ _ _ _ _ _; (try dsimp only); (try k_sweep)))
  (k_with "MY gotb" => (intro _ _ _ _ _; (try dsimp only); (try k_sweep)))
  (k_with "MY abs" => (refine abs_post ?_; intro _ _))
  (k_with "MY end" => ((fail_if_success (with_reducible show wpAny _ _ _ _ _ _)); (first | with_reducible refine TSeq.next (by assumption) _ ?_ | with_reducible refine TSeq.ret (by assumption) _ _ ?_ | with_reducible refine AbsQ.of (by assumption) _ _ ?_); (try dsimp only)))
  (k_with "execs cons" => (k_here; (try k_gentoks); (try k_made); (with_reducible refine seq_abs ?_); intro _ _; (try dsimp only)))
  (k_with "MY enter" => (
  intro _ _ _ _ _ _ _ _ _ _ _ _ _ _ _ _ _
  (try dsimp only)
  k_fold
  (try k_extra "MY abs")))
  (k_with "MY stop" => (
  (fail_if_success (with_reducible show Exists _));
  (fail_if_success (with_reducible show LCt.CompSrcT _ _ _ _ _ _ _ _ _ _ _ _ _ _ _));
  (fail_if_success (with_reducible show LCg.CompSrc _ _ _ _ _ _ _ _ _ _ _ _ _ _));
  (first | (with_reducible show Frag.In _ _ ∧ _) | (with_reducible show FnAt _ _ ∧ _) | (fail_if_success (with_reducible show And _ _)));
  (fail_if_success (with_reducible show wpAny _ _ (eval (Expr.ListComp _ _ _ _) _) _ _ _));
  (fail_if_success (with_reducible show wpAny _ _ (pyIter _) _ _ _));
  (fail_if_success (with_reducible show wpAny _ _ (exec (Stmt.Assign _ (Expr.ListComp _ _ _ _) _) _) _ _ _));
  (fail_if_success (with_reducible show wpAny _ _ (exec (Stmt.While _ _ _ _) _) _ _ _));
  (fail_if_success (with_reducible show wpAny _ _ (exec (Stmt.For _ _ _ _ _) _) _ _ _))))
  (k_with "MY one" => first
  | k_extra "MY end"
  | (k_unfold; (try dsimp only))
  | walk1
  | (dsimp only; walk1)
  | (dsimp only; k_unfold; (try dsimp only))
  | (leave1; walk_say "STEP leave1"; try dsimp only)
  | fail "no step")
  (k_with "MY steps" => w_strict (repeat' (k_extra "MY stop"; k_extra "MY one")))
  (k_with "MY at" => (exact At.of (by k_asm) (by k_asm) (by k_asm) (by k_asm) (by exact rfl) (by exact rfl) (by exact rfl) (by exact rfl) (by k_extra "MY room") (by k_extra "MY room")))
  (k_with "MY room" => first | decide | ((try dsimp only [Around.deeper]); first | with_reducible exact roomD (by assumption) (by decide) | with_reducible exact roomD2 (by assumption) (by decide) | with_reducible exact roomU (by assumption) (by decide) | with_reducible exact roomU2 (by assumption) (by decide) | omega))
  (k_with "MY stage" => (
  refine ⟨_, _, _, _, _, _, _, _, _, _, _, _, _, _, _, by k_is, ?_⟩))
  (k_with "MY steps2" => w_strict (repeat' (k_extra "MY stop"; (fail_if_success (with_reducible show wpAny _ _ (execs (Stmt.For _ _ _ _ _ :: _) _) _ _ _)); k_extra "MY one")))
  (k_with "MY sub" => first | exact sub_nil | exact sub_cons (by k_mem) (by k_extra "MY sub"))
  (k_with "MY off" => first | exact trivial | exact And.intro (by k_ne) (by k_extra "MY off"))
  trivial
theorem lay_lawE_1 : True := by
  (k_with "call ref" => (k_here; (with_reducible show wpAny _ _ (call (Value.ref 123) _) _ _ _); (refine' use_int (worth_n (by k_extra "MY at") (by omega)) (by k_asm) (by k_asm) ?_); k_extra "MY got"))
  (k_with "call ref" => (k_here; (with_reducible show wpAny _ _ (call (Value.ref 116) _) _ _ _); (refine' use_int (odd_c (by k_extra "MY at") (by exact Nat.le_trans (wordB_size (k := 16) (by omega)) (by decide))) (by k_asm) (by k_asm) ?_); k_extra "MY got"))
  (k_with "call ref" => (k_here; (with_reducible show wpAny _ _ (call (Value.ref 111) _) _ _ _); (refine' use_bytes (int2ap_n (by k_extra "MY at") (by omega)) (by k_asm) (by k_asm) ?_); k_extra "MY got"))
  trivial
theorem floordiv8 {prog : Program} {w : World} {p : Program} {loose : List Str} {mean : ExcName → Option Value} {mg mb : Str → Option Value} {A : Around} {s : Shared} {a : Nat} {ta tb : Tok} (hat : At w p loose mean mg mb A 1 s.heap) (h : a < 2 ^ 60) : Ctr prog w A s 35 [.int (a : Int) ta, .int 8 tb] (IntV ((a / 8 : Nat) : Int)) := by
  have := floordiv_c (prog := prog) (a := (a : Int)) (b := 8) (ta := ta) (tb := tb) hat (by omega) (by omega) (by omega) (by omega)
  rwa [show ((a : Int) / 8) = ((a / 8 : Nat) : Int) by omega] at this
theorem lay_lawE_4 : True := by
  (k_with "call ref" => (k_here; (with_reducible show wpAny _ _ (call (Value.ref 35) _) _ _ _); (refine' use_int (floordiv8 (by k_extra "MY at") (by omega)) (by k_asm) (by k_asm) ?_); k_extra "MY got"))
  trivial
theorem pick8a : ∀ k : Fin 8, KBy.picked #[65, 68, 70, 71, 74, 75, 77, 80] (some ((k.val : Nat) : Int)) (some (((k.val : Nat) : Int) + 1)) = #[[65, 68, 70, 71, 74, 75, 77, 80].getD k.val 0] := by
  intro k; rw [KBc.picked_eq]; revert k; decide +kernel
theorem pick8b : ∀ k : Fin 8, KBy.picked #[66, 67, 69, 72, 73, 76, 78, 79] (some ((k.val : Nat) : Int)) (some (((k.val : Nat) : Int) + 1)) = #[[66, 67, 69, 72, 73, 76, 78, 79].getD k.val 0] := by
  intro k; rw [KBc.picked_eq]; revert k; decide +kernel
section
variable {prog : Program} {w : World} {p : Program} {loose : List Str} {mean : ExcName → Option Value} {mg mb : Str → Option Value}
theorem stage8 (next : Stage prog w p loose mean mg mb 9 (fun g L h s m news => ∃ l vs ns rd vsD nD r vsR nR oD ps R, m (Str.ofString "script") = some (.ref l) ∧ m (Str.ofString "row") = some (.ref r) ∧ g.IsList l vs.toArray ∧ IntsAre vs ns ∧ ns.length ≤ 63 ∧ news = [(r, PySem.W.listOf (List.toArray vsR) nR), (rd, PySem.W.listOf (List.toArray vsD) nD), (L + 1, oD), (125, tabObj ps)] ∧ IntsAre vsR (zs R) ∧ R.Pairwise (· < ·) ∧ R.length ≤ 7 ∧ (∀ x ∈ R, x < 2 ^ 20) ∧ r ≠ rd ∧ L + 1 < r)) :
    Stage prog w p loose mean mg mb 8 (fun g L h s m news => ∃ l vs ns rd vsD nD r vsR nR oD ps R, m (Str.ofString "script") = some (.ref l) ∧ m (Str.ofString "row") = some (.ref r) ∧ g.IsList l vs.toArray ∧ IntsAre vs ns ∧ ns.length ≤ 63 ∧ news = [(r, PySem.W.listOf (List.toArray vsR) nR), (rd, PySem.W.listOf (List.toArray vsD) nD), (L + 1, oD), (125, tabObj ps)] ∧ IntsAre vsR (zs R) ∧ R.Pairwise (· < ·) ∧ R.length ≤ 7 ∧ (∀ x ∈ R, x < 2 ^ 20) ∧ r ≠ rd ∧ L + 1 < r) := by
  k_extra "MY stage"
  rintro dp un gd outer base g L fa cd h m news s tk B X T CH hd hu hL F N ⟨l, vs, ns, rd, vsD, nD, r, vsR, nR, oD, ps, R, e1, e2, hl, hi, hn, rfl, hiR, hR, hRl, hRb, hrd, hLr⟩
  replace F := expose2 F e1 e2
  (try dsimp only [List.drop])
  (try k_unmd)
  k_fold
  k_extra "MY steps"
  rename Fr _ _ _ _ => F1
  rename News _ _ _ _ => N1
  refine For_invVF F1 rfl rfl ?_ (by intro _; rfl) PassesOwn.never
  k_extra "MY steps"
  refine loop_list (l := r) (vs := vsR) (fun i m nx => nx = [(r, PySem.W.listOf (List.toArray vsR) nR), (rd, PySem.W.listOf (List.toArray vsD) nD), (L + 1, oD), (125, tabObj ps)] ∧ m (Str.ofString "script") = some (.ref l) ∧ m (Str.ofString "row") = some (.ref r)) rfl (.inr ⟨nR, .head _, by rintro i m nx ⟨rfl, _⟩; exact .head _⟩) F1 N1 ⟨rfl, rfl, rfl⟩ ?_ ?_
  · clear F1 N1
    rintro i v m₁ nx h₁ tk₁ I oI TT hTT hv1 _ hoff ⟨rfl, e1, e2⟩ F₁ N₁
    obtain ⟨x, t7, hx, rfl⟩ := zs_get hiR hv1
    have hxb := hRb x (List.mem_of_getElem? hx)
    have hxw := worth_le x
    replace F₁ := expose3 F₁ (x1 := Str.ofString "place") rfl (x2 := Str.ofString "script") e1 (x3 := Str.ofString "row") e2
    have q8 : Int.fmod (x : Int) 8 = ((x % 8 : Nat) : Int) := mod_nat x 8 (by omega)
    have hww := word_worth x
    have hwl := word_letter x
    have hsz := wordB_size (k := 16) (n := x / 8) (by omega)
    k_extra "MY steps"
    all_goals
      rename Fr _ _ _ _ => F2
      rename News _ _ _ _ => N2
      refine KBc.slice_K (s := ⟨_, _, _, _, _⟩) F2 N2 rfl (by constructor) (by constructor) (by decide) ?_
      clear F2 N2
      intro h6 t6 k6 F2 N2 _
      rw [q8]
    · rename ((List.countP oddLetter (wordB (x / 8)).toList % 2 : Nat) : Int) = 1 => c1
      have c2 : oddB (x / 8) = 1 := by unfold oddB; omega
      rw [c2] at hwl
      have c3 : [65, 68, 70, 71, 74, 75, 77, 80].getD (x % 8) 0 = UInt8.ofNat (65 + (2 * (x % 8) + (1 - par x))) := by
        rw [List.getD_eq_getElem?_getD]
        have : (lettersOf 1)[x % 8]? = ([65, 68, 70, 71, 74, 75, 77, 80] : List UInt8)[x % 8]? := rfl
        rw [← this, hwl]; rfl
      rw [pick8a ⟨x % 8, by omega⟩]
      show wpAny _ _ _ _ _ _
      simp only [c3]
      k_extra "MY steps"
      refine KBy.add_bytes (by simp; omega) ?_
      intro t9 k9
      rw [← hww]
      k_extra "MY steps"
      all_goals first
        | exact tturn hTT [(r, _), (rd, _), (L + 1, oD), (125, tabObj ps)] (by assumption) (by assumption) (fun p hp => hp) rfl ⟨rfl, rfl, rfl⟩
        | (exfalso; rename wordB (worth x) ≠ _ => hq; exact hq rfl)
        | (exfalso; rename ¬ (wordB (worth x) = _) => hq; exact hq rfl)
        | (exfalso; rename (_ : Bool) = true => hq; simp at hq)
    · rename ((List.countP oddLetter (wordB (x / 8)).toList % 2 : Nat) : Int) ≠ 1 => c1
      have c2 : oddB (x / 8) ≠ 1 := by unfold oddB; omega
      have c3 : [66, 67, 69, 72, 73, 76, 78, 79].getD (x % 8) 0 = UInt8.ofNat (65 + (2 * (x % 8) + (1 - par x))) := by
        rw [List.getD_eq_getElem?_getD]
        have : (lettersOf (oddB (x / 8)))[x % 8]? = ([66, 67, 69, 72, 73, 76, 78, 79] : List UInt8)[x % 8]? := by unfold lettersOf; rw [if_neg c2]
        rw [← this, hwl]; rfl
      rw [pick8b ⟨x % 8, by omega⟩]
      simp only [c3]
      k_extra "MY steps"
      refine KBy.add_bytes (by simp; omega) ?_
      intro t9 k9
      rw [← hww]
      k_extra "MY steps"
      all_goals first
        | exact tturn hTT [(r, _), (rd, _), (L + 1, oD), (125, tabObj ps)] (by assumption) (by assumption) (fun p hp => hp) rfl ⟨rfl, rfl, rfl⟩
        | (exfalso; rename wordB (worth x) ≠ _ => hq; exact hq rfl)
        | (exfalso; rename ¬ (wordB (worth x) = _) => hq; exact hq rfl)
        | (exfalso; rename (_ : Bool) = true => hq; simp at hq)
  · clear F1 N1
    rintro m₁ nx h₁ tk₁ _ ⟨rfl, e1, e2⟩ F₁ N₁
    (try k_extra "MY end")
    have U := Stage.use next (by k_is)
    exact U dp un gd outer base g L fa cd h₁ m₁ _ s tk₁ B X T CH hd hu hL F₁ N₁ ⟨l, vs, ns, rd, vsD, nD, r, vsR, nR, oD, ps, R, e1, e2, hl, hi, hn, rfl, hiR, hR, hRl, hRb, hrd, hLr⟩
end
end
/-! part WuNim -/
noncomputable section
theorem reset_WuNim : True := by
  w_top off
  k_with_none
  (k_with "MY got" => (intro _ _ _ _ _ _; (try dsimp only); (try k_sweep)))
  (k_with "MY gotb" => (intro _ _ _ _ _; (try dsimp only); (try k_sweep)))
  (k_with "MY abs" => (refine abs_post ?_; intro _ _))
  (k_with "MY end" => ((fail_if_success (with_reducible show wpAny _ _ _ _ _ _)); (first | with_reducible refine TSeq.next (by assumption) _ ?_ | with_reducible refine TSeq.ret (by assumption) _ _ ?_ | with_reducible refine AbsQ.of (by assumption) _ _ ?_); (try dsimp only)))
  (k_with "execs cons" => (k_here; (try k_gentoks); (try k_made); (with_reducible refine seq_abs ?_); intro _ _; (try dsimp only)))
  (k_with "MY enter" => (
  intro _ _ _ _ _ _ _ _ _ _ _ _ _ _ _ _ _
  (try dsimp only)
  k_fold
  (try k_extra "MY abs")))
  (k_with "MY stop" => (
  (fail_if_success (with_reducible show Exists _));
  (fail_if_success (with_reducible show LCt.CompSrcT _ _ _ _ _ _ _ _ _ _ _ _ _ _ _));
  (fail_if_success (with_reducible show LCg.CompSrc _ _ _ _ _ _ _ _ _ _ _ _ _ _));
  (first | (with_reducible show Frag.In _ _ ∧ _) | (with_reducible show FnAt _ _ ∧ _) | (fail_if_success (with_reducible show And _ _)));
  (fail_if_success (with_reducible show wpAny _ _ (eval (Expr.ListComp _ _ _ _) _) _ _ _));
  (fail_if_success (with_reducible show wpAny _ _ (pyIter _) _ _ _));
  (fail_if_success (with_reducible show wpAny _ _ (exec (Stmt.Assign _ (Expr.ListComp _ _ _ _) _) _) _ _ _));
  (fail_if_success (with_reducible show wpAny _ _ (exec (Stmt.While _ _ _ _) _) _ _ _));
  (fail_if_success (with_reducible show wpAny _ _ (exec (Stmt.For _ _ _ _ _) _) _ _ _))))
  (k_with "MY one" => first
  | k_extra "MY end"
  | (k_unfold; (try dsimp only))
  | walk1
  | (dsimp only; walk1)
  | (dsimp only; k_unfold; (try dsimp only))
  | (leave1; walk_say "STEP leave1"; try dsimp only)
  | fail "no step")
  (k_with "MY steps" => w_strict (repeat' (k_extra "MY stop"; k_extra "MY one")))
  (k_with "MY at" => (exact At.of (by k_asm) (by k_asm) (by k_asm) (by k_asm) (by exact rfl) (by exact rfl) (by exact rfl) (by exact rfl) (by k_extra "MY room") (by k_extra "MY room")))
  (k_with "MY room" => first | decide | ((try dsimp only [Around.deeper]); first | with_reducible exact roomD (by assumption) (by decide) | with_reducible exact roomD2 (by assumption) (by decide) | with_reducible exact roomU (by assumption) (by decide) | with_reducible exact roomU2 (by assumption) (by decide) | omega))
  (k_with "MY stage" => (
  refine ⟨_, _, _, _, _, _, _, _, _, _, _, _, _, _, _, by k_is, ?_⟩))
  (k_with "MY steps2" => w_strict (repeat' (k_extra "MY stop"; (fail_if_success (with_reducible show wpAny _ _ (execs (Stmt.For _ _ _ _ _ :: _) _) _ _ _)); k_extra "MY one")))
  (k_with "MY sub" => first | exact sub_nil | exact sub_cons (by k_mem) (by k_extra "MY sub"))
  (k_with "MY off" => first | exact trivial | exact And.intro (by k_ne) (by k_extra "MY off"))
  trivial
/-! plain laws: parity and exclusive or -/
theorem par_xor : ∀ (a b : Nat), par (a ^^^ b) = (par a + par b) % 2 := by
  intro a
  induction a using Nat.strongRecOn with
  | ind a ih =>
    intro b
    by_cases h : a = 0
    · subst h; rw [par_zero, Nat.zero_xor]; have := par_lt b; omega
    · have h1 := ih (a / 2) (by omega) (b / 2)
      have e1 : (a ^^^ b) / 2 = (a / 2) ^^^ (b / 2) := Nat.xor_div_two
      have m1 : (a ^^^ b) % 2 = (a % 2 + b % 2) % 2 := by
        have m : (a ^^^ b) % 2 = (a % 2) ^^^ (b % 2) := Nat.xor_mod_two_pow (n := 1)
        have ha : a % 2 = 0 ∨ a % 2 = 1 := by omega
        have hb : b % 2 = 0 ∨ b % 2 = 1 := by omega
        rcases ha with ha | ha <;> rcases hb with hb | hb <;> rw [ha, hb] at m <;> simp only [Nat.reduceXor] at m <;> omega
      rw [par_step (a ^^^ b), e1, h1, m1, par_step a, par_step b]
      generalize a % 2 = x, b % 2 = y, par (a / 2) = u, par (b / 2) = v
      omega
theorem par_two (n : Nat) : par (2 * n) = par n := by
  rw [par_step, show 2 * n % 2 = 0 by omega, show 2 * n / 2 = n by omega]
  have := par_lt n; omega
theorem par_two1 (n : Nat) : par (2 * n + 1) = (1 + par n) % 2 := by
  rw [par_step, show (2 * n + 1) % 2 = 1 by omega, show (2 * n + 1) / 2 = n by omega]
/-- every worth is odious -/
theorem worth_odd (n : Nat) : par (worth n) = 1 := by
  rw [worth_par]
  have := par_lt n
  have h : par n = 0 ∨ par n = 1 := by omega
  rcases h with h | h
  · rw [h, show 2 * n + (1 - 0) = 2 * n + 1 by omega, par_two1, h]
  · rw [h, show 2 * n + (1 - 1) = 2 * n by omega, par_two, h]
/-- an odious number is the worth of its half -/
theorem worth_half {v : Nat} (h : par v = 1) : worth (v / 2) = v := by
  have h1 := worth_par (v / 2)
  have h2 := par_step v
  have h3 := par_lt (v / 2)
  omega
theorem worth_inj {a b : Nat} (h : worth a = worth b) : a = b := by
  have := worth_le a; have := worth_ge a; have := worth_le b; have := worth_ge b; omega
theorem nsum_from : ∀ (l : List Nat) (v : Nat), l.foldl (fun v n => v ^^^ worth n) v = v ^^^ nsum l
  | [], v => by simp [nsum]
  | a :: l, v => by
    have h1 := nsum_from l (v ^^^ worth a)
    have h2 := nsum_from l (0 ^^^ worth a)
    unfold nsum
    rw [List.foldl_cons, List.foldl_cons, h1, h2, Nat.zero_xor, Nat.xor_assoc]
theorem nsum_cons (a : Nat) (l : List Nat) : nsum (a :: l) = worth a ^^^ nsum l := by
  have := nsum_from l (0 ^^^ worth a)
  show List.foldl (fun v n => v ^^^ worth n) 0 (a :: l) = _
  rw [List.foldl_cons, this, Nat.zero_xor]
theorem nsum_append : ∀ (a b : List Nat), nsum (a ++ b) = nsum a ^^^ nsum b
  | [], b => by show nsum b = nsum [] ^^^ nsum b; unfold nsum; simp
  | x :: a, b => by rw [List.cons_append, nsum_cons, nsum_cons, nsum_append a b, Nat.xor_assoc]
theorem tog_in {l : List Nat} {p : Nat} (hq : (l.drop (l.countP (· < p))).head? = some p) : ∃ a b, l = a ++ p :: b ∧ tog l p = a ++ b := by
  have hlt : l.countP (· < p) < l.length := by
    rcases Nat.lt_or_ge (l.countP (· < p)) l.length with q | q
    · exact q
    · rw [List.drop_of_length_le q] at hq; cases hq
  refine ⟨l.take (l.countP (· < p)), l.drop (l.countP (· < p) + 1), ?_, ?_⟩
  · have e : l = l.take (l.countP (· < p)) ++ l.drop (l.countP (· < p)) := (List.take_append_drop _ l).symm
    rw [List.head?_drop, List.getElem?_eq_getElem hlt] at hq
    conv => lhs; rw [e]
    rw [List.drop_eq_getElem_cons hlt, Option.some.inj hq]
  · rw [tog, if_pos hq, List.eraseIdx_eq_take_drop_succ]
theorem tog_out {l : List Nat} {p : Nat} (hq : ¬ (l.drop (l.countP (· < p))).head? = some p) : ∃ a b, l = a ++ b ∧ tog l p = a ++ p :: b :=
  ⟨_, _, (List.take_append_drop (l.countP (· < p)) l).symm, by rw [tog, if_neg hq]⟩
theorem nsum_tog (l : List Nat) (p : Nat) : nsum (tog l p) = nsum l ^^^ worth p := by
  by_cases hq : (l.drop (l.countP (· < p))).head? = some p
  · obtain ⟨a, b, e1, e2⟩ := tog_in hq
    rw [e2, e1, nsum_append, nsum_append, nsum_cons, Nat.xor_assoc, Nat.xor_comm (worth p ^^^ nsum b), ← Nat.xor_assoc (worth p), Nat.xor_self, Nat.zero_xor]
  · obtain ⟨a, b, e1, e2⟩ := tog_out hq
    rw [e2, e1, nsum_append, nsum_append, nsum_cons, Nat.xor_assoc, Nat.xor_comm (nsum b)]
theorem mem_tog {l : List Nat} (hl : l.Pairwise (· < ·)) (p x : Nat) : x ∈ tog l p ↔ (x ∈ l ∧ x ≠ p) ∨ (x ∉ l ∧ x = p) := by
  by_cases hq : (l.drop (l.countP (· < p))).head? = some p
  · obtain ⟨a, b, e1, e2⟩ := tog_in hq
    rw [e2, e1]
    rw [e1, List.pairwise_append, List.pairwise_cons] at hl
    obtain ⟨_, ⟨h1, _⟩, h2⟩ := hl
    simp only [List.mem_append, List.mem_cons]
    constructor
    · rintro (h | h)
      · have := h2 x h p (.head _); exact .inl ⟨.inl h, by omega⟩
      · have := h1 x h; exact .inl ⟨.inr (.inr h), by omega⟩
    · rintro (⟨h | h | h, hne⟩ | ⟨h, rfl⟩)
      · exact .inl h
      · exact absurd h hne
      · exact .inr h
      · exact absurd (Or.inr (Or.inl rfl)) h
  · have hs := (tog_ok hl p).1
    obtain ⟨a, b, e1, e2⟩ := tog_out hq
    rw [e2] at hs ⊢
    rw [List.pairwise_append, List.pairwise_cons] at hs
    obtain ⟨_, ⟨h1, _⟩, h2⟩ := hs
    rw [e1]
    simp only [List.mem_append, List.mem_cons]
    have hp : ¬ (p ∈ a ∨ p ∈ b) := by
      rintro (h | h)
      · have := h2 p h p (.head _); omega
      · have := h1 p h; omega
    constructor
    · rintro (h | h | h)
      · exact .inl ⟨.inl h, fun e => hp (.inl (e ▸ h))⟩
      · exact .inr ⟨h ▸ hp, h⟩
      · exact .inl ⟨.inr h, fun e => hp (.inr (e ▸ h))⟩
    · rintro (⟨h | h, _⟩ | ⟨_, h⟩)
      · exact .inl h
      · exact .inr (.inr h)
      · exact .inr (.inl h)
/-- the row of what was turned: the numbers that stand an odd number of times -/
theorem mem_togs : ∀ (D l : List Nat), l.Pairwise (· < ·) → ∀ x, x ∈ D.foldl tog l ↔ ((if x ∈ l then 1 else 0) + D.count x) % 2 = 1
  | [], l, _, x => by
    simp only [List.foldl_nil, List.count_nil]
    by_cases h : x ∈ l <;> simp [h]
  | p :: D, l, hl, x => by
    rw [List.foldl_cons, mem_togs D (tog l p) (tog_ok hl p).1 x, List.count_cons]
    have hm := mem_tog hl p x
    by_cases hx : x ∈ l
    · by_cases hp : x = p
      · have h2 : x ∉ tog l p := fun h => by rcases hm.mp h with q | q; exact q.2 hp; exact q.1 hx
        rw [if_neg h2, if_pos hx, hp]; simp; omega
      · have h2 : x ∈ tog l p := hm.mpr (.inl ⟨hx, hp⟩)
        have : (p == x) = false := by simp; exact Ne.symm hp
        rw [if_pos h2, if_pos hx, this]; simp
    · by_cases hp : x = p
      · have h2 : x ∈ tog l p := hm.mpr (.inr ⟨hx, hp⟩)
        rw [if_pos h2, if_neg hx, hp]; simp; omega
      · have h2 : x ∉ tog l p := fun h => by rcases hm.mp h with q | q; exact hx q.1; exact hp q.2
        have : (p == x) = false := by simp; exact Ne.symm hp
        rw [if_neg h2, if_neg hx, this]; simp
end
/-! part WuNim2 -/
noncomputable section
theorem reset_WuNim2 : True := by
  w_top off
  k_with_none
  (k_with "MY got" => (intro _ _ _ _ _ _; (try dsimp only); (try k_sweep)))
  (k_with "MY gotb" => (intro _ _ _ _ _; (try dsimp only); (try k_sweep)))
  (k_with "MY abs" => (refine abs_post ?_; intro _ _))
  (k_with "MY end" => ((fail_if_success (with_reducible show wpAny _ _ _ _ _ _)); (first | with_reducible refine TSeq.next (by assumption) _ ?_ | with_reducible refine TSeq.ret (by assumption) _ _ ?_ | with_reducible refine AbsQ.of (by assumption) _ _ ?_); (try dsimp only)))
  (k_with "execs cons" => (k_here; (try k_gentoks); (try k_made); (with_reducible refine seq_abs ?_); intro _ _; (try dsimp only)))
  (k_with "MY enter" => (
  intro _ _ _ _ _ _ _ _ _ _ _ _ _ _ _ _ _
  (try dsimp only)
  k_fold
  (try k_extra "MY abs")))
  (k_with "MY stop" => (
  (fail_if_success (with_reducible show Exists _));
  (fail_if_success (with_reducible show LCt.CompSrcT _ _ _ _ _ _ _ _ _ _ _ _ _ _ _));
  (fail_if_success (with_reducible show LCg.CompSrc _ _ _ _ _ _ _ _ _ _ _ _ _ _));
  (first | (with_reducible show Frag.In _ _ ∧ _) | (with_reducible show FnAt _ _ ∧ _) | (fail_if_success (with_reducible show And _ _)));
  (fail_if_success (with_reducible show wpAny _ _ (eval (Expr.ListComp _ _ _ _) _) _ _ _));
  (fail_if_success (with_reducible show wpAny _ _ (pyIter _) _ _ _));
  (fail_if_success (with_reducible show wpAny _ _ (exec (Stmt.Assign _ (Expr.ListComp _ _ _ _) _) _) _ _ _));
  (fail_if_success (with_reducible show wpAny _ _ (exec (Stmt.While _ _ _ _) _) _ _ _));
  (fail_if_success (with_reducible show wpAny _ _ (exec (Stmt.For _ _ _ _ _) _) _ _ _))))
  (k_with "MY one" => first
  | k_extra "MY end"
  | (k_unfold; (try dsimp only))
  | walk1
  | (dsimp only; walk1)
  | (dsimp only; k_unfold; (try dsimp only))
  | (leave1; walk_say "STEP leave1"; try dsimp only)
  | fail "no step")
  (k_with "MY steps" => w_strict (repeat' (k_extra "MY stop"; k_extra "MY one")))
  (k_with "MY at" => (exact At.of (by k_asm) (by k_asm) (by k_asm) (by k_asm) (by exact rfl) (by exact rfl) (by exact rfl) (by exact rfl) (by k_extra "MY room") (by k_extra "MY room")))
  (k_with "MY room" => first | decide | ((try dsimp only [Around.deeper]); first | with_reducible exact roomD (by assumption) (by decide) | with_reducible exact roomD2 (by assumption) (by decide) | with_reducible exact roomU (by assumption) (by decide) | with_reducible exact roomU2 (by assumption) (by decide) | omega))
  (k_with "MY stage" => (
  refine ⟨_, _, _, _, _, _, _, _, _, _, _, _, _, _, _, by k_is, ?_⟩))
  (k_with "MY steps2" => w_strict (repeat' (k_extra "MY stop"; (fail_if_success (with_reducible show wpAny _ _ (execs (Stmt.For _ _ _ _ _ :: _) _) _ _ _)); k_extra "MY one")))
  (k_with "MY sub" => first | exact sub_nil | exact sub_cons (by k_mem) (by k_extra "MY sub"))
  (k_with "MY off" => first | exact trivial | exact And.intro (by k_ne) (by k_extra "MY off"))
  trivial
theorem par_add_pow : ∀ (k r : Nat), r < 2 ^ k → par (2 ^ k + r) = (1 + par r) % 2
  | 0, r, h => by
    have : r = 0 := by simpa using h
    subst this
    show par 1 = _
    rw [par_step 1, par_zero]
  | k + 1, r, h => by
    have h1 : 2 ^ (k + 1) = 2 * 2 ^ k := by rw [Nat.pow_succ, Nat.mul_comm]
    rw [h1] at h ⊢
    have ih := par_add_pow k (r / 2) (by omega)
    rw [par_step (2 * 2 ^ k + r), show (2 * 2 ^ k + r) / 2 = 2 ^ k + r / 2 by omega, ih, par_step r, show (2 * 2 ^ k + r) % 2 = r % 2 by omega]
    generalize r % 2 = x, par (r / 2) = y
    omega
theorem xor_pow : ∀ (k r : Nat), r < 2 ^ k → 2 ^ k ^^^ r = 2 ^ k + r
  | 0, r, h => by
    have : r = 0 := by simpa using h
    subst this; rfl
  | k + 1, r, h => by
    have h1 : 2 ^ (k + 1) = 2 * 2 ^ k := by rw [Nat.pow_succ, Nat.mul_comm]
    rw [h1] at h ⊢
    have ih := xor_pow k (r / 2) (by omega)
    have e1 : (2 * 2 ^ k ^^^ r) / 2 = (2 * 2 ^ k / 2) ^^^ (r / 2) := Nat.xor_div_two
    have m : (2 * 2 ^ k ^^^ r) % 2 = (2 * 2 ^ k % 2) ^^^ (r % 2) := Nat.xor_mod_two_pow (n := 1)
    rw [show 2 * 2 ^ k / 2 = 2 ^ k by omega, ih] at e1
    rw [show 2 * 2 ^ k % 2 = 0 by omega, Nat.zero_xor] at m
    omega
theorem high_split {v : Nat} (h : v ≠ 0) : ∃ r, r < high v ∧ v = high v + r ∧ high v ^^^ r = v ∧ par (high v) = 1 ∧ par v = (1 + par r) % 2 := by
  have h1 : high v ≤ v := high_le v h
  have h2 : v < 2 * high v := by
    have := Nat.lt_log2_self (n := v)
    unfold high
    rw [Nat.pow_succ] at this; omega
  refine ⟨v - high v, by omega, by omega, ?_, ?_, ?_⟩
  · have := xor_pow (Nat.log2 v) (v - high v) (by unfold high at *; omega)
    unfold high at *
    rw [this]; omega
  · have := par_add_pow (Nat.log2 v) 0 (Nat.two_pow_pos _)
    unfold high
    rw [Nat.add_zero, par_zero] at this; exact this
  · have := par_add_pow (Nat.log2 v) (v - high v) (by unfold high at *; omega)
    unfold high at *
    rw [show 2 ^ Nat.log2 v + (v - 2 ^ Nat.log2 v) = v by omega] at this
    exact this
/-- the bit that the sum's highest figure tells -/
theorem and_high (n v : Nat) : (n &&& high v != 0) = n.testBit (Nat.log2 v) := by
  unfold high
  cases h : n.testBit (Nat.log2 v) with
  | true =>
    have h1 : (n &&& 2 ^ Nat.log2 v).testBit (Nat.log2 v) = true := by rw [Nat.testBit_and, h, Nat.testBit_two_pow_self]; rfl
    have h2 : n &&& 2 ^ Nat.log2 v ≠ 0 := fun e => by rw [e, Nat.zero_testBit] at h1; cases h1
    simpa using h2
  | false =>
    have h2 : n &&& 2 ^ Nat.log2 v = 0 := by
      apply Nat.eq_of_testBit_eq
      intro j
      rw [Nat.testBit_and, Nat.testBit_two_pow, Nat.zero_testBit]
      by_cases q : Nat.log2 v = j
      · rw [← q, h]; rfl
      · rw [decide_eq_false q, Bool.and_false]
    rw [h2]; rfl
theorem lt_of_bit {x y i : Nat} (hx : x.testBit i = false) (hy : y.testBit i = true) (h : ∀ j, i < j → x.testBit j = y.testBit j) : x < y := by
  have e : x / 2 ^ (i + 1) = y / 2 ^ (i + 1) := by
    apply Nat.eq_of_testBit_eq
    intro j
    rw [Nat.testBit_div_two_pow, Nat.testBit_div_two_pow]
    exact h _ (by omega)
  rw [Nat.testBit_eq_decide_div_mod_eq] at hx hy
  have hx' : x / 2 ^ i % 2 ≠ 1 := by simpa using hx
  have hy' : y / 2 ^ i % 2 = 1 := by simpa using hy
  rw [Nat.pow_succ, ← Nat.div_div_eq_div_mul, ← Nat.div_div_eq_div_mul] at e
  have hlt : x / 2 ^ i < y / 2 ^ i := by omega
  rcases Nat.lt_or_ge x y with q | q
  · exact q
  · have := Nat.div_le_div_right (c := 2 ^ i) q; omega
theorem nsum_bit : ∀ (l : List Nat) (k : Nat), (nsum l).testBit k = true → ∃ a ∈ l, (worth a).testBit k = true
  | [], k, h => by unfold nsum at h; simp at h
  | a :: l, k, h => by
    rw [nsum_cons, Nat.testBit_xor] at h
    cases ha : (worth a).testBit k with
    | true => exact ⟨a, .head _, ha⟩
    | false =>
      rw [ha] at h
      obtain ⟨b, hb, e⟩ := nsum_bit l k (by simpa using h)
      exact ⟨b, .tail _ hb, e⟩
theorem high_bit {v : Nat} (h : v ≠ 0) : v.testBit (Nat.log2 v) = true := by
  have h1 := Nat.log2_self_le h
  have h2 := Nat.lt_log2_self (n := v)
  rw [Nat.testBit_eq_decide_div_mod_eq]
  rw [Nat.pow_succ] at h2
  have : v / 2 ^ Nat.log2 v = 1 := by
    apply Nat.div_eq_of_lt_le <;> omega
  rw [this]; rfl
theorem over_bit {v j : Nat} (h : Nat.log2 v < j) : v.testBit j = false := by
  apply Nat.testBit_lt_two_pow
  exact Nat.lt_of_lt_of_le (Nat.lt_log2_self) (Nat.pow_le_pow_right (by omega) h)
theorem reply_ok {row : List Nat} {v : Nat} (hv : nsum row = v) (h0 : v ≠ 0) : reply row v ≠ [] ∧ (reply row v).Pairwise (· > ·) ∧ nsum (reply row v) = v ∧ ∀ x ∈ reply row v, ∃ a ∈ row, x ≤ a := by
  unfold reply
  obtain ⟨a0, ha0, hb0⟩ := nsum_bit row (Nat.log2 v) (by rw [hv]; exact high_bit h0)
  cases hf : row.filter (fun n => worth n &&& high v != 0) with
  | nil =>
    have := List.filter_eq_nil_iff.mp hf a0 ha0
    rw [and_high, hb0] at this; simp at this
  | cons a as =>
    have ham : a ∈ row.filter (fun n => worth n &&& high v != 0) := by rw [hf]; exact .head _
    obtain ⟨har, hab⟩ := List.mem_filter.mp ham
    rw [and_high] at hab
    have hlt : worth a ^^^ v < worth a := by
      refine lt_of_bit (i := Nat.log2 v) ?_ hab fun j hj => ?_
      · rw [Nat.testBit_xor, hab, high_bit h0]; rfl
      · rw [Nat.testBit_xor, over_bit hj]; simp
    unfold replyOf
    dsimp only
    have hxx : worth a ^^^ (worth a ^^^ v) = v := by rw [← Nat.xor_assoc, Nat.xor_self, Nat.zero_xor]
    generalize hr : worth a ^^^ v = rest at hlt hxx ⊢
    by_cases hr0 : rest = 0
    · rw [if_pos hr0]
      rw [hr0, Nat.xor_zero] at hxx
      refine ⟨by simp, by simp, ?_, fun x hx => ⟨a, har, by rw [List.mem_singleton.mp hx]; exact Nat.le_refl _⟩⟩
      rw [nsum_cons, show nsum [] = 0 from rfl, Nat.xor_zero, hxx]
    · rw [if_neg hr0]
      have hwlt : ∀ {x : Nat}, worth x < worth a → x < a := fun {x} h => by
        have := worth_ge x; have := worth_le a
        rcases Nat.lt_trichotomy x a with q | q | q
        · exact q
        · subst q; omega
        · have := worth_lt q; omega
      by_cases hw : worth (rest / 2) = rest
      · rw [if_pos hw]
        have h1 : rest / 2 < a := hwlt (by rw [hw]; exact hlt)
        refine ⟨by simp, by simp; exact h1, ?_, fun x hx => ⟨a, har, ?_⟩⟩
        · rw [nsum_cons, nsum_cons, show nsum [] = 0 from rfl, Nat.xor_zero, hw, hxx]
        · rcases List.mem_cons.mp hx with rfl | hx
          · exact Nat.le_refl _
          · rw [List.mem_singleton.mp hx]; omega
      · rw [if_neg hw]
        obtain ⟨r, r1, r2, r3, r4, r5⟩ := high_split hr0
        have hp : par rest = 0 := by
          have := par_lt rest
          have : par rest ≠ 1 := fun q => hw (worth_half q)
          omega
        have hpr : par r = 1 := by have := par_lt r; omega
        have e1 : rest - high rest = r := by omega
        have w1 := worth_half r4
        have w2 := worth_half hpr
        have l1 : high rest / 2 < a := hwlt (by rw [w1]; omega)
        have l2 : r / 2 < high rest / 2 := by
          rcases Nat.lt_or_ge (r / 2) (high rest / 2) with q | q
          · exact q
          · rcases Nat.eq_or_lt_of_le q with q | q
            · rw [q, w2] at w1; omega
            · have := worth_lt q; omega
        rw [e1]
        refine ⟨by simp, ?_, ?_, fun x hx => ⟨a, har, ?_⟩⟩
        · refine .cons (fun y hy => ?_) (.cons (fun y hy => ?_) (.cons (fun y hy => nomatch hy) .nil))
          · rcases List.mem_cons.mp hy with rfl | hy
            · exact l1
            · rw [List.mem_singleton.mp hy]; exact Nat.lt_trans l2 l1
          · rw [List.mem_singleton.mp hy]; exact l2
        · rw [nsum_cons, nsum_cons, nsum_cons, show nsum [] = 0 from rfl, Nat.xor_zero, w1, w2, r3, hxx]
        · rcases List.mem_cons.mp hx with rfl | hx
          · exact Nat.le_refl _
          · rcases List.mem_cons.mp hx with rfl | hx
            · omega
            · rw [List.mem_singleton.mp hx]; omega
theorem nsum_togs : ∀ (ps l : List Nat), nsum (ps.foldl tog l) = nsum l ^^^ nsum ps
  | [], l => by rw [show nsum [] = 0 from rfl, Nat.xor_zero]; rfl
  | p :: ps, l => by rw [List.foldl_cons, nsum_togs ps, nsum_tog, nsum_cons, Nat.xor_assoc]
theorem par_nsum : ∀ l : List Nat, par (nsum l) = l.length % 2
  | [] => by rw [show nsum [] = 0 from rfl, par_zero]; rfl
  | a :: l => by rw [nsum_cons, par_xor, worth_odd, par_nsum l, List.length_cons]; omega
theorem drawn_ne {l : List Nat} (hn : l.Nodup) (h0 : l ≠ []) (h3 : l.length ≤ 3) : nsum l ≠ 0 := by
  intro h
  have hp := par_nsum l
  rw [h, par_zero] at hp
  match l, hn, h0, h3, h, hp with
  | [], _, h0, _, _, _ => exact h0 rfl
  | [a], _, _, _, _, hp => simp at hp
  | [a, b, c], _, _, _, _, hp => simp at hp
  | a :: b :: c :: d :: l, _, _, h3, _, _ => simp at h3
  | [a, b], hn, _, _, h, _ =>
    rw [nsum_cons, nsum_cons, show nsum [] = 0 from rfl, Nat.xor_zero] at h
    have e : worth a = worth b := by
      have := congrArg (fun z => z ^^^ worth b) h
      simp only [Nat.xor_assoc, Nat.xor_self, Nat.xor_zero, Nat.zero_xor] at this
      exact this
    have := worth_inj e
    subst this
    simp at hn
end
/-! part WuCell -/
noncomputable section
section
variable {prog : Program} {w : World} {A : Around} {E : Value → Shared → Prop} {s : Shared} {h₀ : Heap} {L : Addr} {m : Str → Option Value} {env : Env}
/-- the state of a comprehension with a cell for its variable, behind i items -/
def CellSt (h₀ : Heap) (L : Addr) (m : Str → Option Value) (s₁ : Shared) (vs : List Value) (keep : Value → Bool) (news : List (Addr × Obj)) (I ax D C K : Addr) (i : Nat) (s' : Shared) : Prop :=
  ∃ h' tk, s' = { s₁ with heap := h', toks := tk } ∧ Fr h₀ L h' m ∧ (∃ m', h'.Ns C m') ∧ (∃ v₀, h'.IsCell K v₀) ∧ News h₀ L h' ((D, LCg.lst ((vs.take i).filter keep)) :: news) ∧ h'.IsListIter I ax i ∧ h'.IsList ax vs.toArray
/-- places of a comprehension's own objects: all apart -/
structure Apart5 (h₀ : Heap) (L : Addr) (news : List (Addr × Obj)) (I D C K : Addr) : Prop where
  id : I ≠ D
  ic : I ≠ C
  ik : I ≠ K
  dc : D ≠ C
  dk : D ≠ K
  ck : C ≠ K
  li : L ≠ I
  ld : L ≠ D
  lc : L ≠ C
  lk : L ≠ K
  i0 : h₀.get? I = none
  d0 : h₀.get? D = none
  c0 : h₀.get? C = none
  k0 : h₀.get? K = none
  ni : ∀ p ∈ news, p.1 ≠ I
  nd : ∀ p ∈ news, p.1 ≠ D
  nc : ∀ p ∈ news, p.1 ≠ C
  nk : ∀ p ∈ news, p.1 ≠ K
theorem cell_loop {ct iter : Expr} {x : Str} {px pe : Pos} {scope : Scope} {cl : List (Str × Addr)} {pos : Pos} {R : Result → Shared → Prop} {s₁ s₂ : Shared} {vs : List Value} {k : Nat} {ax I D C K : Addr} {news : List (Addr × Obj)} (keep : Value → Bool)
    (hkind : scope.kind = .function) (hx : (relabel scope env).names.lookup x = some .cell) (hdb : (x == ("__debug__" : Str)) = false) (hh : A.handled = none)
    (hm : (ax, PySem.W.listOf (List.toArray vs) k) ∈ news) (hsz : vs.length ≤ sizeLine) (ap : Apart5 h₀ L news I D C K)
    (turn : ∀ v ∈ vs, ∀ K oK I oI C oC D oD h tk, oK.data = .cell (some v) → Fr h₀ L h m → News h₀ L h ((K, oK) :: (I, oI) :: (C, oC) :: (D, oD) :: news) →
        wpAny (model prog w) A (isTrue ct (compEnvC scope ((x, K) :: cl) C env) (eval ct (compEnvC scope ((x, K) :: cl) C env))) (fun ok s' => (∃ h' tk', s' = { s₁ with heap := h', toks := tk' } ∧ Fr h₀ L h' m ∧ News h₀ L h' ((K, oK) :: (I, oI) :: (C, oC) :: (D, oD) :: news)) ∧ ok = keep v) (fun _ _ => False) { s₁ with heap := h, toks := tk })
    (st : CellSt h₀ L m s₁ vs keep news I ax D C K 0 s₂)
    (fin : ∀ h tk, Fr h₀ L h m → (∃ m', h.Ns C m') → News h₀ L h ((D, LCg.lst (vs.filter keep)) :: news) → R (.ok .next) { s₁ with heap := h, toks := tk }) :
    codeAny (model prog w) A (.compLoop (.ListComp (.Name x pe) [⟨.Name x px, iter, [ct], 0⟩] scope pos) 0 (.ref I) (.ref D) (compEnvC scope ((x, K) :: cl) C env)) R s₂ := by
  have W := Walks.list (prog := prog) (w := w) hh I ax (ap.ni _ hm) vs.toArray
  have hck : (compEnvC scope ((x, K) :: cl) C env).scope.kind = .function := hkind
  have hkx : (compEnvC scope ((x, K) :: cl) C env).kindOf x = some .cell := hx
  have hcx : (compEnvC scope ((x, K) :: cl) C env).cells.lookup x = some K := by simp [compEnvC]
  refine codeAny_compLoop_tests (fun n s' => ∃ i, i ≤ vs.length ∧ n = vs.length + 1 - i ∧ CellSt h₀ L m s₁ vs keep news I ax D C K i s') ?_ (vs.length + 1) ⟨0, Nat.zero_le _, rfl, st⟩
  rintro n s' ⟨i, hi, rfl, h', tk, rfl, F, ⟨m', nC⟩, ⟨v₀, cK⟩, N, it, il⟩
  by_cases hlt : i < vs.length
  · refine W.item i _ _ _ (by simpa using hlt) ⟨it, il⟩ fun v h₂ tk₂ hv st₂ hk₂ => ?_
    have hv' : vs[i]? = some v := by simpa using hv
    have hvm : v ∈ vs := List.mem_of_getElem? hv'
    have k2 : ∀ b o, b ≠ I → h'.get? b = some o → h₂.get? b = some o := fun b o hb e => hk₂ b o (by simpa using hb) e
    have cK2 : h₂.IsCell K v₀ := by obtain ⟨o, e, d⟩ := cK; exact ⟨o, k2 _ _ (Ne.symm ap.ik) e, d⟩
    refine wpAny_assign_Name (wpAny_storeName_cell hck hkx hcx cK2 fun h₃ cK3 sb3 => ?_)
    have F3 : Fr h₀ L h₃ m := (LCg.fr_but F hk₂ ap.li ap.i0).change sb3 (Ne.symm ap.lk) ap.k0
    have g3 : ∀ b o, b ≠ I → b ≠ K → h'.get? b = some o → h₃.get? b = some o := fun b o h1 h2 e => sb3.extBut b o h2 (k2 b o h1 e)
    obtain ⟨oK, eK, dK⟩ := cK3
    obtain ⟨oI, eI, rI⟩ := st₂.1
    have eI3 : h₃.get? I = some oI := sb3.extBut I oI ap.ik eI
    obtain ⟨oC, m5, m6, eC, rC⟩ := nC
    have eC3 : h₃.get? C = some oC := g3 _ _ (Ne.symm ap.ic) ap.ck eC
    have N3 : News h₀ L h₃ ((K, oK) :: (I, oI) :: (C, oC) :: (D, LCg.lst ((vs.take i).filter keep)) :: news) := fun p hp => by
      rcases List.mem_cons.mp hp with rfl | hp
      · exact ⟨eK, Ne.symm ap.lk, ap.k0⟩
      rcases List.mem_cons.mp hp with rfl | hp
      · exact ⟨eI3, Ne.symm ap.li, ap.i0⟩
      rcases List.mem_cons.mp hp with rfl | hp
      · exact ⟨eC3, Ne.symm ap.lc, ap.c0⟩
      have z := N p hp
      refine ⟨g3 _ _ ?_ ?_ z.1, z.2⟩
      · rcases List.mem_cons.mp hp with rfl | hp
        · exact Ne.symm ap.id
        · exact ap.ni p hp
      · rcases List.mem_cons.mp hp with rfl | hp
        · exact ap.dk
        · exact ap.nk p hp
    have hstep : (vs.take (i + 1)).filter keep = (vs.take i).filter keep ++ (if keep v then [v] else []) := by
      rw [List.take_add_one, hv', List.filter_append]
      cases hk : keep v <;> simp [hk]
    refine wpAny_tests_one (wpAny_mono (turn v hvm K oK I oI C oC D _ h₃ tk₂ dK F3 N3) (fun ok s' q => ?_) (fun _ _ q => q.elim))
    obtain ⟨⟨h₄, tk₄, rfl, F4, N4⟩, rfl⟩ := q
    have eK4 := (N4 _ (.head _)).1
    have eI4 := (N4 _ (.tail _ (.head _))).1
    have eC4 := (N4 _ (.tail _ (.tail _ (.head _)))).1
    have zD := (N4 _ (.tail _ (.tail _ (.tail _ (.head _))))).1
    have N5 : News h₀ L h₄ news := fun p hp => N4 p (.tail _ (.tail _ (.tail _ (.tail _ hp))))
    have il4 : h₄.IsList ax vs.toArray := ⟨_, (N5 _ hm).1, rfl, _, rfl⟩
    cases hk : keep v with
    | true =>
      simp only [if_true]
      refine wpAny_Name (wpAny_loadName_cell hck hkx hcx ⟨oK, eK4, dK⟩ ?_) hdb
      refine append_at (hsz := by
        show ((vs.take i).filter keep).toArray.size ≤ sizeLine
        rw [List.size_toArray]
        have := List.length_filter_le keep (vs.take i)
        rw [List.length_take] at this; omega) zD fun h₅ hs₅ hD₅ => ?_
      refine ⟨vs.length + 1 - (i + 1), by omega, i + 1, hlt, rfl, h₅, tk₄, rfl, F4.change hs₅ (Ne.symm ap.ld) ap.d0, ⟨m', ?_⟩, ⟨some v, ?_⟩, ?_, ?_, ?_⟩
      · exact ⟨oC, m5, m6, hs₅.extBut _ _ (Ne.symm ap.dc) eC4, rC⟩
      · exact ⟨oK, hs₅.extBut _ _ (Ne.symm ap.dk) eK4, dK⟩
      · rw [hstep, hk, if_pos rfl]
        intro p hp
        rcases List.mem_cons.mp hp with rfl | hp
        · exact ⟨hD₅.trans (congrArg some (LCg.lst_snoc _ v)), Ne.symm ap.ld, ap.d0⟩
        · have z := N5 p hp
          exact ⟨hs₅.extBut _ _ (ap.nd p hp) z.1, z.2⟩
      · exact ⟨oI, hs₅.extBut _ _ ap.id eI4, rI⟩
      · exact ⟨_, hs₅.extBut _ _ (ap.nd _ hm) (N5 _ hm).1, rfl, _, rfl⟩
    | false =>
      simp only [Bool.false_eq_true, if_false]
      refine ⟨vs.length + 1 - (i + 1), by omega, i + 1, hlt, rfl, h₄, tk₄, rfl, F4, ⟨m', ⟨oC, m5, m6, eC4, rC⟩⟩, ⟨some v, ⟨oK, eK4, dK⟩⟩, ?_, ⟨oI, eI4, rI⟩, il4⟩
      rw [hstep, hk, if_neg Bool.false_ne_true, List.append_nil]
      exact fun p hp => N4 p (.tail _ (.tail _ (.tail _ hp)))
  · obtain rfl : i = vs.length := Nat.le_antisymm hi (Nat.not_lt.mp hlt)
    rw [List.take_length] at N
    refine W.done _ _ _ (by rw [List.size_toArray]; exact ⟨it, il⟩) fun h₂ tk₂ hk₂ => ?_
    refine fin h₂ tk₂ (LCg.fr_but F hk₂ ap.li ap.i0) ⟨m', nC.at' fun o e => hk₂ _ o (by simpa using Ne.symm ap.ic) e⟩ (LCg.news_but N hk₂ fun p hp => ?_)
    rcases List.mem_cons.mp hp with rfl | hp
    · exact Ne.symm ap.id
    · exact ap.ni p hp
theorem comp_cell {ct iter : Expr} {x : Str} {px pe : Pos} {scope : Scope} {cl : List (Str × Addr)} {pos : Pos} {Q : Value → Shared → Prop} (keep : Value → Bool) (_F₀ : Fr h₀ L s.heap m)
    (hclos : closureFor scope env = pure cl) (hkind : scope.kind = .function) (hnames : ∀ y ∈ scope.names, y.2 = .local → scope.names.lookup y.1 = some .local)
    (hcs : ∀ n, cellsFrom n scope.names cl = (x, n) :: cl) (hpc : ∀ h, pushCells h scope.names = h.push { cls := .type "cell", data := .cell none })
    (hx : (relabel scope env).names.lookup x = some .cell) (hdb : (x == ("__debug__" : Str)) = false) (hh : A.handled = none)
    (h : wpAny (model prog w) A (eval iter env) (fun xv s₁ => ∃ ax vs k news, xv = .ref ax ∧ Fr h₀ L s₁.heap m ∧ News h₀ L s₁.heap news ∧ (ax, PySem.W.listOf (List.toArray vs) k) ∈ news ∧ vs.length ≤ sizeLine ∧
      (∀ v ∈ vs, ∀ K oK I oI C oC D oD h tk, oK.data = .cell (some v) → Fr h₀ L h m → News h₀ L h ((K, oK) :: (I, oI) :: (C, oC) :: (D, oD) :: news) →
        wpAny (model prog w) A (isTrue ct (compEnvC scope ((x, K) :: cl) C env) (eval ct (compEnvC scope ((x, K) :: cl) C env))) (fun ok s' => (∃ h' tk', s' = { s₁ with heap := h', toks := tk' } ∧ Fr h₀ L h' m ∧ News h₀ L h' ((K, oK) :: (I, oI) :: (C, oC) :: (D, oD) :: news)) ∧ ok = keep v) (fun _ _ => False) { s₁ with heap := h, toks := tk }) ∧
      (∀ D h tk, Fr h₀ L h m → News h₀ L h ((D, LCg.lst (vs.filter keep)) :: news) → (∀ p ∈ news, p.1 ≠ D) → Q (.ref D) { s₁ with heap := h, toks := tk })) E s)
    (hs : ∀ x, foldedSetIterable iter env x = pure x := by intro _; rfl) :
    wpAny (model prog w) A (eval (.ListComp (.Name x pe) [⟨.Name x px, iter, [ct], 0⟩] scope pos) env) Q E s := by
  rw [eval_ListComp]
  refine wpAny_comprehension_free (use := none) rfl hs hclos hkind hnames (wpAny_mono h (fun xv s₁ h₁ => ?_) fun _ _ e => e)
  obtain ⟨ax, vs, k, news, rfl, F, N, hm, hsz, turn, fin⟩ := h₁
  have hl : s₁.heap.IsList ax vs.toArray := ⟨_, (N _ hm).1, rfl, _, rfl⟩
  have hax : ax < s₁.heap.objs.size := Heap.lt_size (N _ hm).1
  refine wpAny_pyIter_list hl ?_
  refine wpAny_newObj_type ?_
  simp only [newFunctionEnv, Option.isSome_some, if_true]
  refine wpAny_bind (wpAny_alloc ?_)
  refine wpAny_bind (wpAny_layCells _ (fun name kind cells => by cases hkc : kind == NameKind.cell <;> simp) _ _ _ _ ?_)
  rw [hcs, hpc]
  refine wpAny_bind (wpAny_pure (wpAny_pure ?_))
  have hLlt : L < s₁.heap.objs.size := F.ns.lt
  have nlt : ∀ p ∈ news, p.1 < s₁.heap.objs.size := fun p hp => Heap.lt_size (N p hp).1
  have fresh₀ : ∀ a, s₁.heap.objs.size ≤ a → h₀.get? a = none := fun a ha => by
    cases e : h₀.get? a with
    | none => rfl
    | some o' => exact absurd (Heap.lt_size (F.keep a o' e)) (Nat.not_lt.mpr ha)
  dsimp only
  have p1 : ∀ b o, s₁.heap.get? b = some o → (s₁.heap.push { cls := .type "list_iterator", data := .fields #[.ref ax, .int 0 0] }).get? b = some o := fun b o e => Heap.get?_push_of_some _ e
  have q1 : (s₁.heap.push { cls := .type "list_iterator", data := .fields #[.ref ax, .int 0 0] }).get? s₁.heap.objs.size = some { cls := .type "list_iterator", data := .fields #[.ref ax, .int 0 0] } := Heap.get?_push_size _ rfl
  have z1 : (s₁.heap.push { cls := .type "list_iterator", data := .fields #[.ref ax, .int 0 0] }).objs.size = s₁.heap.objs.size + 1 := Heap.size_push ..
  generalize s₁.heap.push { cls := .type "list_iterator", data := .fields #[.ref ax, .int 0 0] } = g1 at p1 q1 z1 ⊢
  have p2 : ∀ b o, g1.get? b = some o → (g1.push { cls := .type "list", data := .seq #[] }).get? b = some o := fun b o e => Heap.get?_push_of_some _ e
  have q2 : (g1.push { cls := .type "list", data := .seq #[] }).get? g1.objs.size = some { cls := .type "list", data := .seq #[] } := Heap.get?_push_size _ rfl
  have z2 : (g1.push { cls := .type "list", data := .seq #[] }).objs.size = g1.objs.size + 1 := Heap.size_push ..
  generalize g1.push { cls := .type "list", data := .seq #[] } = g2 at p2 q2 z2 ⊢
  have p3 : ∀ b o, g2.get? b = some o → (g2.push { cls := .type "dict", data := .dict #[] }).get? b = some o := fun b o e => Heap.get?_push_of_some _ e
  have q3 : (g2.push { cls := .type "dict", data := .dict #[] }).Ns g2.objs.size fun _ => none := Heap.Ns.new g2 (.type "dict")
  have z3 : (g2.push { cls := .type "dict", data := .dict #[] }).objs.size = g2.objs.size + 1 := Heap.size_push ..
  generalize g2.push { cls := .type "dict", data := .dict #[] } = g3 at p3 q3 z3 ⊢
  have p4 : ∀ b o, g3.get? b = some o → (g3.push { cls := .type "cell", data := .cell none }).get? b = some o := fun b o e => Heap.get?_push_of_some _ e
  have q4 : (g3.push { cls := .type "cell", data := .cell none }).get? g3.objs.size = some { cls := .type "cell", data := .cell none } := Heap.get?_push_size _ rfl
  generalize g3.push { cls := .type "cell", data := .cell none } = g4 at p4 q4 ⊢
  have ne : ∀ {a b : Nat}, a < b → a ≠ b := fun h => Nat.ne_of_lt h
  have ap : Apart5 h₀ L news s₁.heap.objs.size g1.objs.size g2.objs.size g3.objs.size := {
    id := ne (by omega), ic := ne (by omega), ik := ne (by omega), dc := ne (by omega), dk := ne (by omega), ck := ne (by omega)
    li := ne hLlt
    ld := ne (Nat.lt_of_lt_of_le hLlt (by omega)), lc := ne (Nat.lt_of_lt_of_le hLlt (by omega)), lk := ne (Nat.lt_of_lt_of_le hLlt (by omega))
    i0 := fresh₀ _ (Nat.le_refl _), d0 := fresh₀ _ (by omega), c0 := fresh₀ _ (by omega), k0 := fresh₀ _ (by omega)
    ni := fun p hp => ne (nlt p hp)
    nd := fun p hp => ne (Nat.lt_of_lt_of_le (nlt p hp) (by omega)), nc := fun p hp => ne (Nat.lt_of_lt_of_le (nlt p hp) (by omega)), nk := fun p hp => ne (Nat.lt_of_lt_of_le (nlt p hp) (by omega)) }
  have old : ∀ b o, s₁.heap.get? b = some o → g4.get? b = some o := fun b o e => p4 _ _ (p3 _ _ (p2 _ _ (p1 _ _ e)))
  have st : CellSt h₀ L m s₁ vs keep news s₁.heap.objs.size ax g1.objs.size g2.objs.size g3.objs.size 0 { s₁ with heap := g4 } := by
    refine ⟨g4, s₁.toks, rfl, F.keeps old, ⟨_, q3.keeps p4⟩, ⟨none, ⟨_, q4, rfl⟩⟩, fun p hp => ?_, ⟨_, p4 _ _ (p3 _ _ (p2 _ _ q1)), rfl, rfl⟩, ⟨_, old _ _ (N _ hm).1, rfl, _, rfl⟩⟩
    rcases List.mem_cons.mp hp with rfl | hp
    · exact ⟨p4 _ _ (p3 _ _ q2), Ne.symm ap.ld, ap.d0⟩
    · exact ⟨old _ _ (N p hp).1, (N p hp).2⟩
  have loop := cell_loop (px := px) (pe := pe) (iter := iter) (pos := pos) (R := compPost (model prog w) A E none Q (.ref g1.objs.size) g2.objs.size) keep hkind hx hdb hh hm hsz ap turn st ?_
  · exact codeAny_compStart_list loop ((Walks.list (prog := prog) (w := w) hh s₁.heap.objs.size ax (ap.ni _ hm) vs.toArray).self 0 _ _ _ ⟨⟨_, p4 _ _ (p3 _ _ (p2 _ _ q1)), rfl, rfl⟩, ⟨_, old _ _ (N _ hm).1, rfl, _, rfl⟩⟩ loop)
  · rintro h tk F' ⟨m', nC⟩ N'
    refine ⟨m', nC, fun h'' hs'' => fin _ h'' tk (F'.change hs'' (Ne.symm ap.lc) ap.c0) (fun p hp => ⟨hs''.extBut _ _ ?_ (N' p hp).1, (N' p hp).2⟩) ap.nd⟩
    rcases List.mem_cons.mp hp with rfl | hp
    · exact ap.dc
    · exact ap.nc p hp
end
end
/-! part WuLawD -/
noncomputable section
theorem reset_WuLawD : True := by
  w_top off
  k_with_none
  (k_with "MY got" => (intro _ _ _ _ _ _; (try dsimp only); (try k_sweep)))
  (k_with "MY gotb" => (intro _ _ _ _ _; (try dsimp only); (try k_sweep)))
  (k_with "MY abs" => (refine abs_post ?_; intro _ _))
  (k_with "MY end" => ((fail_if_success (with_reducible show wpAny _ _ _ _ _ _)); (first | with_reducible refine TSeq.next (by assumption) _ ?_ | with_reducible refine TSeq.ret (by assumption) _ _ ?_ | with_reducible refine AbsQ.of (by assumption) _ _ ?_); (try dsimp only)))
  (k_with "execs cons" => (k_here; (try k_gentoks); (try k_made); (with_reducible refine seq_abs ?_); intro _ _; (try dsimp only)))
  (k_with "MY enter" => (
  intro _ _ _ _ _ _ _ _ _ _ _ _ _ _ _ _ _
  (try dsimp only)
  k_fold
  (try k_extra "MY abs")))
  (k_with "MY stop" => (
  (fail_if_success (with_reducible show Exists _));
  (fail_if_success (with_reducible show LCt.CompSrcT _ _ _ _ _ _ _ _ _ _ _ _ _ _ _));
  (fail_if_success (with_reducible show LCg.CompSrc _ _ _ _ _ _ _ _ _ _ _ _ _ _));
  (first | (with_reducible show Frag.In _ _ ∧ _) | (with_reducible show FnAt _ _ ∧ _) | (fail_if_success (with_reducible show And _ _)));
  (fail_if_success (with_reducible show wpAny _ _ (eval (Expr.ListComp _ _ _ _) _) _ _ _));
  (fail_if_success (with_reducible show wpAny _ _ (pyIter _) _ _ _));
  (fail_if_success (with_reducible show wpAny _ _ (exec (Stmt.Assign _ (Expr.ListComp _ _ _ _) _) _) _ _ _));
  (fail_if_success (with_reducible show wpAny _ _ (exec (Stmt.While _ _ _ _) _) _ _ _));
  (fail_if_success (with_reducible show wpAny _ _ (exec (Stmt.For _ _ _ _ _) _) _ _ _))))
  (k_with "MY one" => first
  | k_extra "MY end"
  | (k_unfold; (try dsimp only))
  | walk1
  | (dsimp only; walk1)
  | (dsimp only; k_unfold; (try dsimp only))
  | (leave1; walk_say "STEP leave1"; try dsimp only)
  | fail "no step")
  (k_with "MY steps" => w_strict (repeat' (k_extra "MY stop"; k_extra "MY one")))
  (k_with "MY at" => (exact At.of (by k_asm) (by k_asm) (by k_asm) (by k_asm) (by exact rfl) (by exact rfl) (by exact rfl) (by exact rfl) (by k_extra "MY room") (by k_extra "MY room")))
  (k_with "MY room" => first | decide | ((try dsimp only [Around.deeper]); first | with_reducible exact roomD (by assumption) (by decide) | with_reducible exact roomD2 (by assumption) (by decide) | with_reducible exact roomU (by assumption) (by decide) | with_reducible exact roomU2 (by assumption) (by decide) | omega))
  (k_with "MY stage" => (
  refine ⟨_, _, _, _, _, _, _, _, _, _, _, _, _, _, _, by k_is, ?_⟩))
  (k_with "MY steps2" => w_strict (repeat' (k_extra "MY stop"; (fail_if_success (with_reducible show wpAny _ _ (execs (Stmt.For _ _ _ _ _ :: _) _) _ _ _)); k_extra "MY one")))
  (k_with "MY sub" => first | exact sub_nil | exact sub_cons (by k_mem) (by k_extra "MY sub"))
  (k_with "MY off" => first | exact trivial | exact And.intro (by k_ne) (by k_extra "MY off"))
  trivial
theorem lay_lawD_1 : True := by
  (k_with "MY stays" => first | (exact fun _ _ e => e) | assumption | exact stays_trans (by assumption) (by assumption) | exact stays_trans (by assumption) (stays_trans (by assumption) (by assumption)))
  trivial
theorem togs_lt {D l : List Nat} (hl : l.Pairwise (· < ·)) {b : Nat} (h1 : ∀ x ∈ l, x < b) (h2 : ∀ x ∈ D, x < b) : ∀ x ∈ D.foldl tog l, x < b := by
  intro x hx
  have := (mem_togs D l hl x).mp hx
  by_cases h : x ∈ l
  · exact h1 x h
  · rw [if_neg h] at this
    exact h2 x (List.count_pos_iff.mp (by omega))
def keepD (D : List Nat) : Value → Bool
  | .int i _ => D.count i.toNat % 2 == 1
  | _ => false
def keepX (n : Nat) : Value → Bool
  | .int i _ => i == (n : Int)
  | _ => false
theorem keepX_nat (n k : Nat) (t : Tok) : keepX n (.int (k : Int) t) = (k == n) := by
  show ((k : Int) == (n : Int)) = _
  rw [Bool.eq_iff_iff, beq_iff_eq, beq_iff_eq]; omega
theorem filterX {n : Nat} : ∀ {vs : List Value} {l : List Nat}, IntsAre vs (zs l) → IntsAre (vs.filter (keepX n)) (zs (l.filter (· == n)))
  | _, [], h => by cases h; exact .nil
  | _, k :: l, h => by
    obtain ⟨t, us, rfl, hu⟩ := ints_cons h
    have ih := filterX (n := n) hu
    have e := keepX_nat n k t
    cases hk : (k == n) with
    | true => rw [List.filter_cons_of_pos (by rw [e, hk]), List.filter_cons_of_pos (by rw [hk])]; exact .cons _ _ ih
    | false => rw [List.filter_cons_of_neg (by rw [e, hk]; exact Bool.false_ne_true), List.filter_cons_of_neg (by rw [hk]; exact Bool.false_ne_true)]; exact ih
theorem filterD {D : List Nat} : ∀ {vs : List Value} {l : List Nat}, IntsAre vs (zs l) → IntsAre (vs.filter (keepD D)) (zs (l.filter fun n => D.count n % 2 == 1))
  | _, [], h => by cases h; exact .nil
  | _, n :: l, h => by
    obtain ⟨t, us, rfl, hu⟩ := ints_cons h
    have ih := filterD (D := D) hu
    have e : keepD D (.int (n : Int) t) = (D.count n % 2 == 1) := by show (D.count (n : Int).toNat % 2 == 1) = _; rw [Int.toNat_natCast]
    cases hk : (D.count n % 2 == 1) with
    | true => rw [List.filter_cons_of_pos (by rw [e, hk]), List.filter_cons_of_pos (by rw [hk])]; exact .cons _ _ ih
    | false => rw [List.filter_cons_of_neg (by rw [e, hk]; exact Bool.false_ne_true), List.filter_cons_of_neg (by rw [hk]; exact Bool.false_ne_true)]; exact ih
section
variable {prog : Program} {w : World} {p : Program} {loose : List Str} {mean : ExcName → Option Value} {mg mb : Str → Option Value}
theorem stage7 (next : Stage prog w p loose mean mg mb 8 (fun g L h s m news => ∃ l vs ns rd vsD nD r vsR nR oD ps R, m (Str.ofString "script") = some (.ref l) ∧ m (Str.ofString "row") = some (.ref r) ∧ g.IsList l vs.toArray ∧ IntsAre vs ns ∧ ns.length ≤ 63 ∧ news = [(r, PySem.W.listOf (List.toArray vsR) nR), (rd, PySem.W.listOf (List.toArray vsD) nD), (L + 1, oD), (125, tabObj ps)] ∧ IntsAre vsR (zs R) ∧ R.Pairwise (· < ·) ∧ R.length ≤ 7 ∧ (∀ x ∈ R, x < 2 ^ 20) ∧ r ≠ rd ∧ L + 1 < r)) :
    Stage prog w p loose mean mg mb 7 (fun g L h s m news => ∃ l vs ns rd vsD nD r vsR nR oD ps D, m (Str.ofString "script") = some (.ref l) ∧ m (Str.ofString "row") = some (.ref r) ∧ g.IsList l vs.toArray ∧ IntsAre vs ns ∧ ns.length ≤ 63 ∧ news = [(r, PySem.W.listOf (List.toArray vsR) nR), (rd, PySem.W.listOf (List.toArray vsD) nD), (L + 1, oD), (125, tabObj ps)] ∧ oD.data = .cell (some (.ref rd)) ∧ IntsAre vsD (zs D) ∧ IntsAre vsR (zs (D.foldl tog [])) ∧ D.length ≤ 7 ∧ (∀ x ∈ D, x < 2 ^ 20) ∧ r ≠ rd ∧ L + 1 < r ∧ rd ≠ L + 1) := by
  k_extra "MY stage"
  rintro dp un gd outer base g L fa cd h m news s tk B X T CH hd hu hL F N ⟨l, vs, ns, rd, vsD, nD, r, vsR, nR, oD, ps, D, e1, e2, hl, hi, hn, rfl, eD, hiD, hiR, hDl, hDb, hrd, hLr, hrL⟩
  replace F := expose2 F e1 e2
  replace hL := ltN hL
  replace hrd := neN hrd
  replace hLr := ltN hLr
  replace hrL := neN hrL
  (try dsimp only [List.drop])
  (try k_unmd)
  k_fold
  k_extra "MY steps"
  rename Fr _ _ _ _ => F1
  rename News _ _ _ _ => N1
  refine comp_cell (x := Str.ofString "place") (cl := [(Str.ofString "drawn", L + 1)]) (keepD D) F1 (by with_unfolding_all rfl) rfl (by decide) (fun _ => rfl) (fun _ => rfl) (by rfl) (by decide) rfl ?_ (by intro _; rfl)
  k_extra "MY steps"
  refine set_of_list F1 N1 rfl (isl_mem N1 (.tail _ (.head _))) hiD (by rw [zs_length]; omega) ?_
  clear F1 N1
  intro S1 h1 tk1 o1 σ F1 N1 nS hS hnd hle hmem
  rw [zs_length] at hle
  k_extra "MY steps"
  refine sorted_set F1 N1 rfl (get_mem N1 (.head _)) hS hnd (by omega) ?_
  clear F1 N1
  intro S2 h2 tk2 vs2 ns2 c2 F2 N2 nS2 hi2 hasc hm2
  obtain ⟨R0, rfl⟩ : ∃ R0, ns2 = zs R0 := ⟨ns2.map Int.toNat, by
    rw [zs, List.map_map]
    refine (List.map_id _).symm.trans (List.map_congr_left fun k hk => ?_)
    obtain ⟨q, _, rfl⟩ := List.mem_map.mp ((hmem k).mp ((hm2 k).mp hk))
    rfl⟩
  refine ⟨S2, vs2, c2, _, rfl, F2, N2, .head _, ?_, ?_, ?_⟩
  · have h1 : (zs R0).Nodup := hasc.imp fun h => Int.ne_of_lt h
    have h2 := nodup_le (l' := σ) h1 fun k hk => (hm2 k).mp hk
    have h3 := hi2.length
    rw [sizeLine_eq]; omega
  · intro v hv K oK I oI C oC D4 oD4 h3 tk3 dK F3 N3
    obtain ⟨n, t9, hn9, rfl⟩ := zs_mem hi2 hv
    dsimp only
    k_extra "MY steps"
    refine LCt.ListComp_T (cl := [(Str.ofString "place", K)]) F3 (by with_unfolding_all rfl) (by decide) rfl (by decide) rfl ?_ (by intro _; rfl)
    k_extra "MY steps"
    refine LCt.CompSrcT.ledger (by rfl) F3 N3 (ax := rd) (.tail _ (.tail _ (.tail _ (.tail _ (.tail _ (.tail _ (.tail _ (.head _)))))))) (by rw [sizeLine_eq, List.size_toArray]; have := hiD.length; rw [zs_length] at this; omega) ?_
    intro g'
    refine crestTA (keepX n) (Or.inr ⟨_, .tail _ (.tail _ (.tail _ (.tail _ (.tail _ (.tail _ (.tail _ (.head _))))))), rfl, _, rfl⟩) ?_ ?_ ?_
    · clear F3 N3
      intro u C4 m4 h4 tk4 hu4 hC4 hx4 F4 N4
      obtain ⟨x, t4, hx, rfl⟩ := zs_mem hiD hu4
      dsimp only
      k_extra "MY steps"
      refine ⟨grown_refl (by k_extra "MY stays"), ?_⟩
      rw [keepX_nat, Bool.eq_iff_iff, beq_iff_eq, beq_iff_eq]; omega
    · clear F3 N3
      intro u C4 m4 h4 tk4 hu4 hC4 hx4 F4 N4
      dsimp only
      k_extra "MY steps"
      exact ⟨⟨_, _, rfl, fun _ _ e => e⟩, rfl⟩
    · clear F3 N3
      have hfi := filterX (n := n) hiD
      have hfl : (D.filter (· == n)).length = D.count n := List.countP_eq_length_filter.symm
      have hcD : D.count n ≤ D.length := List.count_le_length
      generalize vsD.filter (keepX n) = ws at hfi ⊢
      generalize D.filter (· == n) = fl at hfi hfl
      have hfz : (zs fl).length < 1000 := by rw [zs_length]; omega
      intro D5 h5 tk5 F5 N5 fD
      dsimp only
      k_extra "MY steps"
      refine ⟨⟨_, _, rfl, F5, fun q hq => N5 q (.tail _ hq)⟩, ?_⟩
      show (Int.fmod (((zs fl).length : Nat) : Int) 2 == 1) = (D.count ((n : Nat) : Int).toNat % 2 == 1)
      rw [zs_length, hfl, Int.toNat_natCast, show Int.fmod ((D.count n : Nat) : Int) 2 = ((D.count n % 2 : Nat) : Int) from mod_nat _ 2 (by omega), Bool.eq_iff_iff, beq_iff_eq, beq_iff_eq]
      omega
  · have hfd := filterD (D := D) hi2
    have hok := togs_ok (ps := D) (l := []) .nil
    have hq : zs (R0.filter fun n => D.count n % 2 == 1) = zs (D.foldl tog []) := by
      have hR0 : R0.Pairwise (· < ·) := by
        rw [zs, List.pairwise_map] at hasc
        exact hasc.imp fun q => by omega
      refine asc_unique (zs_asc (hR0.sublist List.filter_sublist)) (zs_asc hok.1) fun k => ?_
      have hm : ∀ n : Nat, n ∈ R0.filter (fun n => D.count n % 2 == 1) ↔ n ∈ D.foldl tog [] := fun n => by
        rw [mem_togs D [] .nil n, List.mem_filter, if_neg List.not_mem_nil, beq_iff_eq]
        constructor
        · rintro ⟨_, h⟩; omega
        · intro h
          refine ⟨?_, by omega⟩
          have h1 : n ∈ D := List.count_pos_iff.mp (by omega)
          have h2 := (hm2 (n : Int)).mpr ((hmem (n : Int)).mpr (List.mem_map.mpr ⟨n, h1, rfl⟩))
          obtain ⟨q, hq1, hq2⟩ := List.mem_map.mp h2
          have : q = n := by omega
          exact this ▸ hq1
      simp only [zs, List.mem_map]
      exact ⟨fun ⟨n, h1, h2⟩ => ⟨n, (hm n).mp h1, h2⟩, fun ⟨n, h1, h2⟩ => ⟨n, (hm n).mpr h1, h2⟩⟩
    rw [hq] at hfd
    have hRb : ∀ x ∈ D.foldl tog [], x < 2 ^ 20 := togs_lt .nil (fun x hx => nomatch hx) hDb
    have hRl : (D.foldl tog []).length ≤ 7 := by have := hok.2; simp at this; omega
    have hRp := hok.1
    generalize D.foldl tog [] = R at hiR hfd hRb hRl hRp
    generalize vs2.filter (keepD D) = ws at hfd ⊢
    have hlz : (zs R).length < 1000 := by rw [zs_length]; omega
    intro D3 h3 tk3 F3 N3 nD3
    dsimp only
    k_extra "MY steps2"
    rename Fr _ _ _ _ => F9
    rename News _ _ _ _ => N9
    have U := Stage.use next (by k_is)
    exact U dp un gd outer base g L fa cd _ _ _ s _ B X T CH hd hu hL F9 (fun q hq => N9 q (.tail _ (.tail _ (.tail _ hq)))) ⟨l, vs, ns, rd, vsD, nD, r, vsR, nR, oD, ps, R, rfl, rfl, hl, hi, hn, rfl, hiR, hRp, hRl, hRb, hrd, hLr⟩
end
end
/-! part WuLawF -/
noncomputable section
theorem reset_WuLawF : True := by
  w_top off
  k_with_none
  (k_with "MY got" => (intro _ _ _ _ _ _; (try dsimp only); (try k_sweep)))
  (k_with "MY gotb" => (intro _ _ _ _ _; (try dsimp only); (try k_sweep)))
  (k_with "MY abs" => (refine abs_post ?_; intro _ _))
  (k_with "MY end" => ((fail_if_success (with_reducible show wpAny _ _ _ _ _ _)); (first | with_reducible refine TSeq.next (by assumption) _ ?_ | with_reducible refine TSeq.ret (by assumption) _ _ ?_ | with_reducible refine AbsQ.of (by assumption) _ _ ?_); (try dsimp only)))
  (k_with "execs cons" => (k_here; (try k_gentoks); (try k_made); (with_reducible refine seq_abs ?_); intro _ _; (try dsimp only)))
  (k_with "MY enter" => (
  intro _ _ _ _ _ _ _ _ _ _ _ _ _ _ _ _ _
  (try dsimp only)
  k_fold
  (try k_extra "MY abs")))
  (k_with "MY stop" => (
  (fail_if_success (with_reducible show Exists _));
  (fail_if_success (with_reducible show LCt.CompSrcT _ _ _ _ _ _ _ _ _ _ _ _ _ _ _));
  (fail_if_success (with_reducible show LCg.CompSrc _ _ _ _ _ _ _ _ _ _ _ _ _ _));
  (first | (with_reducible show Frag.In _ _ ∧ _) | (with_reducible show FnAt _ _ ∧ _) | (fail_if_success (with_reducible show And _ _)));
  (fail_if_success (with_reducible show wpAny _ _ (eval (Expr.ListComp _ _ _ _) _) _ _ _));
  (fail_if_success (with_reducible show wpAny _ _ (pyIter _) _ _ _));
  (fail_if_success (with_reducible show wpAny _ _ (exec (Stmt.Assign _ (Expr.ListComp _ _ _ _) _) _) _ _ _));
  (fail_if_success (with_reducible show wpAny _ _ (exec (Stmt.While _ _ _ _) _) _ _ _));
  (fail_if_success (with_reducible show wpAny _ _ (exec (Stmt.For _ _ _ _ _) _) _ _ _))))
  (k_with "MY one" => first
  | k_extra "MY end"
  | (k_unfold; (try dsimp only))
  | walk1
  | (dsimp only; walk1)
  | (dsimp only; k_unfold; (try dsimp only))
  | (leave1; walk_say "STEP leave1"; try dsimp only)
  | fail "no step")
  (k_with "MY steps" => w_strict (repeat' (k_extra "MY stop"; k_extra "MY one")))
  (k_with "MY at" => (exact At.of (by k_asm) (by k_asm) (by k_asm) (by k_asm) (by exact rfl) (by exact rfl) (by exact rfl) (by exact rfl) (by k_extra "MY room") (by k_extra "MY room")))
  (k_with "MY room" => first | decide | ((try dsimp only [Around.deeper]); first | with_reducible exact roomD (by assumption) (by decide) | with_reducible exact roomD2 (by assumption) (by decide) | with_reducible exact roomU (by assumption) (by decide) | with_reducible exact roomU2 (by assumption) (by decide) | omega))
  (k_with "MY stage" => (
  refine ⟨_, _, _, _, _, _, _, _, _, _, _, _, _, _, _, by k_is, ?_⟩))
  (k_with "MY steps2" => w_strict (repeat' (k_extra "MY stop"; (fail_if_success (with_reducible show wpAny _ _ (execs (Stmt.For _ _ _ _ _ :: _) _) _ _ _)); k_extra "MY one")))
  (k_with "MY sub" => first | exact sub_nil | exact sub_cons (by k_mem) (by k_extra "MY sub"))
  (k_with "MY off" => first | exact trivial | exact And.intro (by k_ne) (by k_extra "MY off"))
  trivial
theorem lay_lawF_1 : True := by
  (k_with "call ref" => (k_here; (with_reducible show wpAny _ _ (call (Value.ref 21) _) _ _ _); (refine' use_bool (not_c (by k_extra "MY at")) (by k_asm) (by k_asm) ?_); k_extra "MY gotb"))
  trivial
theorem lt30 {R : List Nat} (h : ∀ x ∈ R, x < 2 ^ 20) (n : Nat) (hn : n ∈ R) : n < 2 ^ 30 := Nat.lt_of_lt_of_le (h n hn) (by decide)
theorem asc_rev {l : List Nat} {ns : List Int} (hl : l.Pairwise (· > ·)) (hn : ns.Pairwise (· < ·)) (h : ∀ k, k ∈ ns ↔ k ∈ zs l) : ns = (zs l).reverse := by
  refine asc_unique hn ?_ fun k => by rw [h k, List.mem_reverse]
  rw [List.pairwise_reverse, zs, List.pairwise_map]
  exact hl.imp fun q => by omega
theorem reply_len {row : List Nat} {v : Nat} : (reply row v).length ≤ 3 := by
  unfold reply replyOf
  split
  · simp
  · split
    · simp
    · split <;> simp
theorem nsum_lt : ∀ {l : List Nat}, (∀ x ∈ l, x < 2 ^ 20) → nsum l < 2 ^ 21
  | [], _ => by rw [show nsum [] = 0 from rfl]; decide
  | a :: l, h => by
    rw [nsum_cons]
    have := h a (.head _)
    have := worth_le a
    exact Nat.xor_lt_two_pow (by omega) (nsum_lt fun x hx => h x (.tail _ hx))
theorem lay_lawF_2 : True := by
  (k_with "MY steps3" => w_strict (repeat' (k_extra "MY stop"; (fail_if_success (with_reducible show wpAny _ _ (exec (Stmt.If _ _ _ _) _) _ _ _)); k_extra "MY one")))
  (k_with "call ref" => (k_here; (with_reducible show wpAny _ _ (call (Value.ref 142) _) _ _ _); (refine' use_int (sum_c (by k_extra "MY at") (by exact isl_mem (by k_asm) (by k_mem)) (by assumption) (by exact lt30 (by assumption))) (by k_asm) (by k_asm) ?_); k_extra "MY got"))
  trivial
section
variable {prog : Program} {w : World} {p : Program} {loose : List Str} {mean : ExcName → Option Value} {mg mb : Str → Option Value}
theorem stage9 (next : Stage prog w p loose mean mg mb 10 (fun g L h s m news => ∃ rd vsD nD r vsR nR oD ps R, m (Str.ofString "row") = some (.ref r) ∧ news = [(r, PySem.W.listOf (List.toArray vsR) nR), (rd, PySem.W.listOf (List.toArray vsD) nD), (L + 1, oD), (125, tabObj ps)] ∧ IntsAre vsR (zs R) ∧ R.Pairwise (· < ·) ∧ R.length < 60)) :
    Stage prog w p loose mean mg mb 9 (fun g L h s m news => ∃ l vs ns rd vsD nD r vsR nR oD ps R, m (Str.ofString "script") = some (.ref l) ∧ m (Str.ofString "row") = some (.ref r) ∧ g.IsList l vs.toArray ∧ IntsAre vs ns ∧ ns.length ≤ 63 ∧ news = [(r, PySem.W.listOf (List.toArray vsR) nR), (rd, PySem.W.listOf (List.toArray vsD) nD), (L + 1, oD), (125, tabObj ps)] ∧ IntsAre vsR (zs R) ∧ R.Pairwise (· < ·) ∧ R.length ≤ 7 ∧ (∀ x ∈ R, x < 2 ^ 20) ∧ r ≠ rd ∧ L + 1 < r) := by
  k_extra "MY stage"
  rintro dp un gd outer base g L fa cd h m news s tk B X T CH hd hu hL F N ⟨l, vs, ns, rd, vsD, nD, r, vsR, nR, oD, ps, R, e1, e2, hl, hi, hn, rfl, hiR, hR, hRl, hRb, hrd, hLr⟩
  replace F := expose2 F e1 e2
  replace hL := ltN hL
  replace hrd := neN hrd
  replace hLr := ltN hLr
  (try dsimp only [List.drop])
  (try k_unmd)
  k_fold
  k_extra "MY steps"
  rename Fr _ _ _ _ => F1
  refine For_invVF F1 rfl rfl ?_ (by intro _; rfl) PassesOwn.never
  k_extra "MY steps"
  rename Fr _ _ _ _ => F1
  rename News _ _ _ _ => N1
  rename IntsAre _ (_ ++ _) => hiX
  rename_i lv wx hv lt
  replace N1 : News g L _ [(lv, PySem.W.listOf (List.toArray wx) 0), (r, PySem.W.listOf (List.toArray vsR) nR), (rd, PySem.W.listOf (List.toArray vsD) nD), (L + 1, oD), (125, tabObj ps)] := fun p hp => N1 p (by
    rcases List.mem_cons.mp hp with rfl | hp
    · exact .head _
    · exact .tail _ (.tail _ (.tail _ (.tail _ hp))))
  have lr := ltN lt.2.2.2.1
  have lrd := ltN lt.2.2.2.2.1
  have lL := ltN lt.2.2.2.2.2.1
  have l125 := ltN lt.2.2.2.2.2.2
  have hxl : (List.take 2 ns ++ [3061]).length ≤ 3 := by simp; omega
  generalize List.take 2 ns ++ [3061] = xs at hiX hxl
  have hwl := hiX.length
  refine loop_list (l := lv) (fun i m nx => ∃ vsR nR R, nx = [(lv, _), (r, PySem.W.listOf (List.toArray vsR) nR), (rd, PySem.W.listOf (List.toArray vsD) nD), (L + 1, oD), (125, tabObj ps)] ∧ IntsAre vsR (zs R) ∧ R.Pairwise (· < ·) ∧ R.length ≤ 7 + 6 * i ∧ (∀ x ∈ R, x < 2 ^ 20) ∧ m (Str.ofString "row") = some (.ref r)) rfl (.inr ⟨0, .head _, by rintro i m nx ⟨vsR, nR, R, rfl, _⟩; exact .head _⟩) F1 N1 ⟨vsR, nR, R, rfl, hiR, hR, by omega, hRb, rfl⟩ ?_ ?_
  · clear F1 N1
    rintro i v m₁ nx h₁ tk₁ I oI TT hTT hv1 _ hoff ⟨vsR1, nR1, R1, rfl, hiR1, hR1, hRl1, hRb1, e1⟩ F₁ N₁
    have hi3 : i < 3 := by have := (List.getElem?_eq_some_iff.mp hv1).1; omega
    obtain ⟨t7, rfl⟩ := IntsAre.int_at hiX i v hv1
    generalize xs.getD i 0 = x at F₁
    replace F₁ := expose2 F₁ (x1 := Str.ofString "x") rfl (x2 := Str.ofString "row") e1
    have o1 : @Ne Nat r I := (offL hoff).2.1
    clear hoff
    k_extra "MY steps3"
    rename Fr _ _ _ _ => F2
    rename News _ _ _ _ => N2
    refine wp_abs (fun f s' => f = .next ∧ ∃ h' tk' m' vsR nR R, s' = { s with heap := h', toks := tk' } ∧ Fr g L h' m' ∧ News g L h' [(I, oI), (lv, PySem.W.listOf (List.toArray wx) 0), (r, PySem.W.listOf (List.toArray vsR) nR), (rd, PySem.W.listOf (List.toArray vsD) nD), (L + 1, oD), (125, tabObj ps)] ∧ IntsAre vsR (zs R) ∧ R.Pairwise (· < ·) ∧ R.length ≤ 10 + 6 * i ∧ (∀ x ∈ R, x < 2 ^ 20) ∧ nsum R = 0 ∧ m' (Str.ofString "row") = some (.ref r) ∧ m' (Str.ofString "x") = some (.int x t7)) ?_ ?_
    · intro TM hTM
      k_extra "MY steps"
      · rename ((nsum R1 : Nat) : Int) ≠ 0 => hv0
        rename Fr _ _ _ _ => F3
        rename News _ _ _ _ => N3
        have hv1' : nsum R1 ≠ 0 := by omega
        have hvl := nsum_lt hRb1
        refine use_list (reply_c (p := p) (loose := loose) (mean := mean) (mg := mg) (mb := mb) (At.of (by assumption) F3 (by assumption) (by assumption) rfl rfl rfl rfl (by k_extra "MY room") (by k_extra "MY room")) (isl_mem N3 (.tail _ (.tail _ (.head _)))) hiR1 (fun n hn => Nat.lt_of_lt_of_le (hRb1 n hn) (by decide)) (by omega) hv1' (by omega)) F3 N3 ?_
        clear F3 N3
        intro D4 vs4 c4 h4 tk4 st4 F4 N4 nD4 hi4
        obtain ⟨k1, k2, k3, k4⟩ := reply_ok rfl hv1'
        have k5 := reply_len (row := R1) (v := nsum R1)
        generalize hT : reply R1 (nsum R1) = tn at hi4 k1 k2 k3 k4 k5
        k_extra "MY steps"
        · exfalso
          rename decide (zs tn = []) = true => hq
          have := of_decide_eq_true hq
          cases tn
          · exact k1 rfl
          · cases this
        · rename Fr _ _ _ _ => F5
          rename News _ _ _ _ => N5
          refine set_of_list F5 N5 rfl (isl_mem N5 (by k_mem)) hi4 (by rw [zs_length]; omega) ?_
          clear F5 N5
          intro S1 h5 tk5 o5 σ F5 N5 nS hS hnd hle hmem
          rw [zs_length] at hle
          k_extra "MY steps"
          refine sorted_set F5 N5 rfl (get_mem N5 (.head _)) hS hnd (by omega) ?_
          clear F5 N5
          intro S2 h6 tk6 vs6 ns6 c6 F6 N6 nS6 hi6 hasc hm6
          have e6 := asc_rev k2 hasc fun k => (hm6 k).trans (hmem k)
          subst e6
          k_extra "MY steps"
          · rename Fr _ _ _ _ => F7
            rename News _ _ _ _ => N7
            have j2 : @Ne Nat r D4 := (offL nD4).2.2.1
            clear nD4
            have N8 : News g L _ [(r, PySem.W.listOf (List.toArray vsR1) nR1), (D4, PySem.W.listOf (List.toArray vs4) c4), (I, oI), (lv, PySem.W.listOf (List.toArray wx) 0), (rd, PySem.W.listOf (List.toArray vsD) nD), (L + 1, oD), (125, tabObj ps)] := news_sub N7 (by k_extra "MY sub")
            clear N7
            refine For_invVF F7 rfl rfl ?_ (by intro _; rfl) PassesOwn.never
            k_extra "MY steps"
            have hR10 := hR1
            refine loop_list (l := D4) (vs := vs4) (fun q m nx => ∃ vsR nR, nx = [(r, PySem.W.listOf (List.toArray vsR) nR), (D4, PySem.W.listOf (List.toArray vs4) c4), (I, oI), (lv, PySem.W.listOf (List.toArray wx) 0), (rd, PySem.W.listOf (List.toArray vsD) nD), (L + 1, oD), (125, tabObj ps)] ∧ IntsAre vsR (zs ((tn.take q).foldl tog R1)) ∧ m (Str.ofString "row") = some (.ref r) ∧ m (Str.ofString "x") = some (.int x t7)) rfl (.inr ⟨_, .tail _ (.head _), by rintro q m nx ⟨vsR, nR, rfl, _⟩; exact .tail _ (.head _)⟩) F7 N8 ⟨vsR1, nR1, rfl, hiR1, rfl, rfl⟩ ?_ ?_
            · clear F7 N8
              rintro q v m₉ nx h₉ tk₉ I9 oI9 TT hTT hv9 _ hoff9 ⟨vsR, nR, rfl, hiR, e1, e2⟩ F₉ N₉
              obtain ⟨y, t9, hy, rfl⟩ := zs_get hi4 hv9
              have b0 : @Ne Nat r I9 := (offL hoff9).1
              clear hoff9
              have hok := togs_ok (ps := tn.take q) (l := R1) hR10
              have hlR : ((tn.take q).foldl tog R1).length ≤ 50 := by have := hok.2; rw [List.length_take] at this; omega
              have hnext : (tn.take (q + 1)).foldl tog R1 = tog ((tn.take q).foldl tog R1) y := by
                rw [List.take_add_one, hy, List.foldl_append]; rfl
              replace F₉ := expose3 F₉ (x1 := Str.ofString "place") rfl (x2 := Str.ofString "row") e1 (x3 := Str.ofString "x") e2
              k_extra "MY steps"
              rename Fr _ _ _ _ => F2
              rename News _ _ _ _ => N2
              refine use_mut [(I9, oI9), (D4, PySem.W.listOf (List.toArray vs4) c4), (I, oI), (lv, PySem.W.listOf (List.toArray wx) 0), (rd, PySem.W.listOf (List.toArray vsD) nD), (L + 1, oD), (125, tabObj ps)] (turn_c (p := p) (loose := loose) (mean := mean) (mg := mg) (mb := mb) (AtM.of (by assumption) F2 (by assumption) (by assumption) N2 (.tail _ (.head _)) rfl rfl rfl rfl (by k_extra "MY room") (by k_extra "MY room")) hiR hok.1 (by omega)) F2 N2 (.tail _ (.head _)) (rest_ok (by k_extra "MY sub") (by k_extra "MY off")) ?_
              · clear F2 N2
                intro vs' n' h' tk' _ F2 N2 hi2
                k_extra "MY steps"
                refine tturn hTT [(r, PySem.W.listOf (List.toArray vs') n'), (D4, PySem.W.listOf (List.toArray vs4) c4), (I, oI), (lv, PySem.W.listOf (List.toArray wx) 0), (rd, PySem.W.listOf (List.toArray vsD) nD), (L + 1, oD), (125, tabObj ps)] F2 N2 (by k_extra "MY sub") rfl ⟨vs', n', rfl, by rw [hnext]; exact hi2, rfl, rfl⟩
            · clear F7 N8
              rintro m₉ nx h₉ tk₉ _ ⟨vsR, nR, rfl, hiR, e1, e2⟩ F₉ N₉
              rw [List.take_of_length_le (by have := hi4.length; rw [zs_length] at this; omega)] at hiR
              have hb9 : ∀ z ∈ tn.foldl tog R1, z < 2 ^ 20 := togs_lt hR10 hRb1 fun z hz => by
                obtain ⟨a, ha, hza⟩ := k4 z hz
                exact Nat.lt_of_le_of_lt hza (hRb1 a ha)
              have hs9 : nsum (tn.foldl tog R1) = 0 := by rw [nsum_togs, k3, Nat.xor_self]
              have hok9 := togs_ok (ps := tn) (l := R1) hR10
              generalize tn.foldl tog R1 = R9 at hiR hb9 hs9 hok9
              replace F₉ := expose2 F₉ e1 e2
              k_extra "MY steps"
              · exfalso
                rename ((nsum R9 : Nat) : Int) ≠ 0 => hq
                omega
              · rename Fr _ _ _ _ => F8
                rename News _ _ _ _ => N8
                exact hTM _ _ ⟨rfl, _, _, _, vsR, nR, R9, rfl, F8, news_sub N8 (by k_extra "MY sub"), hiR, hok9.1, by omega, hb9, hs9, rfl, rfl⟩
              · exfalso
                rename ((((nsum R9 : Nat) : Int) == 0) == true) = false => hq
                rw [hs9] at hq
                simp at hq
          · exfalso
            rename ¬ (zs tn = _) => hq
            exact hq (List.reverse_reverse _).symm
      · rename Fr _ _ _ _ => F3
        rename News _ _ _ _ => N3
        exact hTM _ _ ⟨rfl, _, _, _, vsR1, nR1, R1, rfl, F3, N3, hiR1, hR1, by omega, hRb1, by omega, rfl, rfl⟩
    · clear F2 N2
      rintro f s' ⟨rfl, h', tk', m', vsR2, nR2, R2, rfl, F2, N2, hiR2, hR2, hRl2, hRb2, hs2, e2, e3⟩
      replace F2 := expose2 F2 e2 e3
      (try dsimp only)
      have hlen2 : (zs R2).length < 100 := by rw [zs_length]; omega
      by_cases hR0 : R2 = []
      · subst hR0
        k_extra "MY steps"
        rename Fr _ _ _ _ => F8
        rename News _ _ _ _ => N8
        refine tturn hTT [(lv, PySem.W.listOf (List.toArray wx) 0), (r, PySem.W.listOf (List.toArray vsR2) nR2), (rd, PySem.W.listOf (List.toArray vsD) nD), (L + 1, oD), (125, tabObj ps)] F8 N8 (by k_extra "MY sub") rfl ⟨vsR2, nR2, [], rfl, hiR2, .nil, by simp, (fun z hz => nomatch hz), rfl⟩
      · have hpos : 0 < (zs R2).length := by rw [zs_length]; exact List.length_pos_iff.mpr hR0
        k_extra "MY steps"
        · exfalso
          rename decide (zs R2 = []) = true => hq
          have := of_decide_eq_true hq
          rw [this] at hpos
          cases hpos
        · rename Fr _ _ _ _ => F3
          rename News _ _ _ _ => N3
          obtain ⟨f, hf, hfm⟩ : ∃ f, (zs R2).getD (Int.fmod x ((zs R2).length : Int)).toNat 0 = ((f : Nat) : Int) ∧ f ∈ R2 := by
            rw [zs_getD]
            refine ⟨_, rfl, ?_⟩
            have h1 := Int.fmod_eq_emod_of_nonneg x (show (0 : Int) ≤ ((zs R2).length : Int) by omega)
            have h2 := Int.emod_lt_of_pos x (show (0 : Int) < ((zs R2).length : Int) by omega)
            have h3 := Int.emod_nonneg x (show ((zs R2).length : Int) ≠ 0 by omega)
            rw [h1]
            have h4 : (x % ((zs R2).length : Int)).toNat < R2.length := by rw [zs_length] at *; omega
            rw [List.getD_eq_getElem?_getD, List.getElem?_eq_getElem h4]
            exact List.getElem_mem h4
          rw [hf] at F3 N3
          have hfb := hRb2 f hfm
          rename_i tf _ _ _ _ lT _ ltT _ _ _
          refine For_invVF F3 rfl rfl ?_ (by intro _; rfl) PassesOwn.never
          k_extra "MY steps"
          rename Fr _ _ _ _ => F4
          rename News _ _ _ _ => N4
          rename_i lq _ ltq lD ws _ hiW hcW hlW ltD
          obtain ⟨lT2, lTI, lTv, lTr, lTd, lTL, lT5⟩ := ltT
          replace lTI := ltN lTI
          replace lTv := ltN lTv
          replace lTr := ltN lTr
          replace lTd := ltN lTd
          replace lTL := ltN lTL
          replace lT5 := ltN lT5
          have lDT := ltN ltD.2.1
          clear ltD ltq
          generalize hys : List.take ((x.fdiv 16).fmod 3).toNat [x.fdiv 64, x.fdiv 4096] = ys at hiW
          have hyl : ys.length ≤ 2 := by rw [← hys]; simp; omega
          have N8 : News g L _ [(lT, PySem.W.listOf (List.toArray [Value.int (f : Int) tf]) 0), (lD, PySem.W.listOf (List.toArray ws) 0), (I, oI), (lv, PySem.W.listOf (List.toArray wx) 0), (r, PySem.W.listOf (List.toArray vsR2) nR2), (rd, PySem.W.listOf (List.toArray vsD) nD), (L + 1, oD), (125, tabObj ps)] := news_sub N4 (by k_extra "MY sub")
          clear N4
          refine loop_list (l := lD) (vs := ws) (fun q m nx => ∃ vsT nT T, nx = [(lT, PySem.W.listOf (List.toArray vsT) nT), (lD, PySem.W.listOf (List.toArray ws) 0), (I, oI), (lv, PySem.W.listOf (List.toArray wx) 0), (r, PySem.W.listOf (List.toArray vsR2) nR2), (rd, PySem.W.listOf (List.toArray vsD) nD), (L + 1, oD), (125, tabObj ps)] ∧ IntsAre vsT (zs T) ∧ T.Nodup ∧ T ≠ [] ∧ T.length ≤ 1 + q ∧ (∀ z ∈ T, z < 2 ^ 20) ∧ m (Str.ofString "row") = some (.ref r) ∧ m (Str.ofString "turned") = some (.ref lT) ∧ m (Str.ofString "far") = some (.int (f : Int) tf)) rfl (.inr ⟨0, .tail _ (.head _), by rintro q m nx ⟨vsT, nT, T, rfl, _⟩; exact .tail _ (.head _)⟩) F4 N8 ⟨_, 0, [f], rfl, .cons _ _ .nil, by simp, by simp, by simp, by simpa using hfb, rfl, rfl, rfl⟩ ?_ ?_
          · clear F4 N8
            rintro q v m₉ nx h₉ tk₉ I9 oI9 TT hTT hv9 _ hoff9 ⟨vsT, nT, T, rfl, hiT, hTn, hT0, hTl, hTb, e1, e2, e3⟩ F₉ N₉
            have hq2 : q < 2 := by have := (List.getElem?_eq_some_iff.mp hv9).1; have := hiW.length; omega
            obtain ⟨t9, rfl⟩ := IntsAre.int_at hiW q v hv9
            generalize ys.getD q 0 = y at F₉
            have b0 : @Ne Nat lT I9 := (offL hoff9).1
            clear hoff9
            replace F₉ := expose4 F₉ (x1 := Str.ofString "y") rfl (x2 := Str.ofString "row") e1 (x3 := Str.ofString "turned") e2 (x4 := Str.ofString "far") e3
            have hTz : (zs T).length < 100 := by rw [zs_length]; omega
            k_extra "MY steps"
            · exact tturn hTT [(lT, PySem.W.listOf (List.toArray vsT) nT), (lD, PySem.W.listOf (List.toArray ws) 0), (I, oI), (lv, PySem.W.listOf (List.toArray wx) 0), (r, PySem.W.listOf (List.toArray vsR2) nR2), (rd, PySem.W.listOf (List.toArray vsD) nD), (L + 1, oD), (125, tabObj ps)] (by assumption) (by assumption) (fun z hz => hz) rfl ⟨vsT, nT, T, rfl, hiT, hTn, hT0, by omega, hTb, rfl, rfl, rfl⟩
            · rename ((0 : Int) < (f : Int)) => hf0
              rename ((zs T).any _) = false => hany
              have hf0' : 0 < f := by omega
              rename Fr _ _ _ _ => F6
              rename News _ _ _ _ => N6
              have hmi := mod_int y f hf0'
              rw [hmi] at hany
              simp only [hmi, List.push_toArray] at N6
              have hlf : (y % (f : Int)).toNat < f := by
                have := Int.emod_lt_of_pos y (show (0 : Int) < (f : Int) by omega)
                have := Int.emod_nonneg y (show (f : Int) ≠ 0 by omega)
                omega
              clear hmi
              generalize (y % (f : Int)).toNat = c at hany hlf N6
              have hcT : c ∉ T := fun hc => by
                have : ((zs T).any fun z => z == ((c : Nat) : Int)) = true := List.any_eq_true.mpr ⟨(c : Int), List.mem_map.mpr ⟨c, hc, rfl⟩, beq_self_eq_true _⟩
                rw [this] at hany; cases hany
              refine tturn hTT [(lT, PySem.W.listOf (List.toArray (vsT ++ [_])) (nT + 1)), (lD, PySem.W.listOf (List.toArray ws) 0), (I, oI), (lv, PySem.W.listOf (List.toArray wx) 0), (r, PySem.W.listOf (List.toArray vsR2) nR2), (rd, PySem.W.listOf (List.toArray vsD) nD), (L + 1, oD), (125, tabObj ps)] F6 N6 (fun z hz => hz) rfl ⟨_, nT + 1, T ++ [c], rfl, ?_, ?_, by simp, by simp; omega, ?_, rfl, rfl, rfl⟩
              · rw [show zs (T ++ [c]) = zs T ++ [((c : Nat) : Int)] by simp [zs]]
                exact IntsAre.append hiT (.cons _ _ .nil)
              · rw [List.nodup_append]
                exact ⟨hTn, by simp, fun a ha b hb e => hcT (by rw [List.mem_singleton.mp hb] at e; exact e ▸ ha)⟩
              · intro z hz
                rcases List.mem_append.mp hz with hz | hz
                · exact hTb z hz
                · rw [List.mem_singleton.mp hz]; omega
            · exact tturn hTT [(lT, PySem.W.listOf (List.toArray vsT) nT), (lD, PySem.W.listOf (List.toArray ws) 0), (I, oI), (lv, PySem.W.listOf (List.toArray wx) 0), (r, PySem.W.listOf (List.toArray vsR2) nR2), (rd, PySem.W.listOf (List.toArray vsD) nD), (L + 1, oD), (125, tabObj ps)] (by assumption) (by assumption) (fun z hz => hz) rfl ⟨vsT, nT, T, rfl, hiT, hTn, hT0, by omega, hTb, rfl, rfl, rfl⟩
          · clear F4 N8
            rintro m₉ nx h₉ tk₉ _ ⟨vsT, nT, tn, rfl, hi4, hTn, hT0, hTl, hTb, e1, e2, e3⟩ F₉ N₉
            have hTl3 : tn.length ≤ 3 := by have := hiW.length; omega
            clear hTl
            replace F₉ := expose2 F₉ e1 e2
            k_extra "MY steps"
            rename Fr _ _ _ _ => F7
            rename News _ _ _ _ => N7
            refine For_invVF F7 rfl rfl ?_ (by intro _; rfl) PassesOwn.never
            k_extra "MY steps"
            have N8 : News g L _ [(r, PySem.W.listOf (List.toArray vsR2) nR2), (lT, PySem.W.listOf (List.toArray vsT) nT), (I, oI), (lv, PySem.W.listOf (List.toArray wx) 0), (rd, PySem.W.listOf (List.toArray vsD) nD), (L + 1, oD), (125, tabObj ps)] := news_sub N7 (by k_extra "MY sub")
            clear N7
            refine loop_list (l := lT) (vs := vsT) (fun q m nx => ∃ vsR nR, nx = [(r, PySem.W.listOf (List.toArray vsR) nR), (lT, PySem.W.listOf (List.toArray vsT) nT), (I, oI), (lv, PySem.W.listOf (List.toArray wx) 0), (rd, PySem.W.listOf (List.toArray vsD) nD), (L + 1, oD), (125, tabObj ps)] ∧ IntsAre vsR (zs ((tn.take q).foldl tog R2)) ∧ m (Str.ofString "row") = some (.ref r)) rfl (.inr ⟨_, .tail _ (.head _), by rintro q m nx ⟨vsR, nR, rfl, _⟩; exact .tail _ (.head _)⟩) F7 N8 ⟨vsR2, nR2, rfl, hiR2, rfl⟩ ?_ ?_
            · clear F7 N8
              rintro q v m₉ nx h₉ tk₉ I9 oI9 TT hTT hv9 _ hoff9 ⟨vsR, nR, rfl, hiR, e1⟩ F₉ N₉
              obtain ⟨y, t9, hy, rfl⟩ := zs_get hi4 hv9
              have b0 : @Ne Nat r I9 := (offL hoff9).1
              clear hoff9
              have hok := togs_ok (ps := tn.take q) (l := R2) hR2
              have hlR : ((tn.take q).foldl tog R2).length ≤ 50 := by have := hok.2; rw [List.length_take] at this; omega
              have hnext : (tn.take (q + 1)).foldl tog R2 = tog ((tn.take q).foldl tog R2) y := by
                rw [List.take_add_one, hy, List.foldl_append]; rfl
              replace F₉ := expose2 F₉ (x1 := Str.ofString "place") rfl (x2 := Str.ofString "row") e1
              k_extra "MY steps"
              rename Fr _ _ _ _ => F2
              rename News _ _ _ _ => N2
              refine use_mut [(I9, oI9), (lT, PySem.W.listOf (List.toArray vsT) nT), (I, oI), (lv, PySem.W.listOf (List.toArray wx) 0), (rd, PySem.W.listOf (List.toArray vsD) nD), (L + 1, oD), (125, tabObj ps)] (turn_c (p := p) (loose := loose) (mean := mean) (mg := mg) (mb := mb) (AtM.of (by assumption) F2 (by assumption) (by assumption) N2 (.tail _ (.head _)) rfl rfl rfl rfl (by k_extra "MY room") (by k_extra "MY room")) hiR hok.1 (by omega)) F2 N2 (.tail _ (.head _)) (rest_ok (by k_extra "MY sub") (by k_extra "MY off")) ?_
              · clear F2 N2
                intro vs' n' h' tk' _ F2 N2 hi2
                k_extra "MY steps"
                refine tturn hTT [(r, PySem.W.listOf (List.toArray vs') n'), (lT, PySem.W.listOf (List.toArray vsT) nT), (I, oI), (lv, PySem.W.listOf (List.toArray wx) 0), (rd, PySem.W.listOf (List.toArray vsD) nD), (L + 1, oD), (125, tabObj ps)] F2 N2 (by k_extra "MY sub") rfl ⟨vs', n', rfl, by rw [hnext]; exact hi2, rfl⟩
            · clear F7 N8
              rintro m₉ nx h₉ tk₉ _ ⟨vsR, nR, rfl, hiR, e1⟩ F₉ N₉
              rw [List.take_of_length_le (by have := hi4.length; rw [zs_length] at this; omega)] at hiR
              have hb9 : ∀ z ∈ tn.foldl tog R2, z < 2 ^ 20 := togs_lt hR2 hRb2 hTb
              have hs9 : nsum (tn.foldl tog R2) ≠ 0 := by
                rw [nsum_togs, hs2, Nat.zero_xor]
                exact drawn_ne hTn hT0 hTl3
              have hok9 := togs_ok (ps := tn) (l := R2) hR2
              generalize tn.foldl tog R2 = R9 at hiR hb9 hs9 hok9
              replace F₉ := expose1 F₉ e1
              k_extra "MY steps"
              · exfalso
                rename ((nsum R9 : Nat) : Int) = 0 => hq
                omega
              · rename Fr _ _ _ _ => F8
                rename News _ _ _ _ => N8
                refine tturn hTT [(lv, PySem.W.listOf (List.toArray wx) 0), (r, PySem.W.listOf (List.toArray vsR) nR), (rd, PySem.W.listOf (List.toArray vsD) nD), (L + 1, oD), (125, tabObj ps)] F8 N8 (by k_extra "MY sub") rfl ⟨vsR, nR, R9, rfl, hiR, hok9.1, by have := hok9.2; omega, hb9, rfl⟩
              · exfalso
                rename ((((nsum R9 : Nat) : Int) == 0) == false) = false => hq
                have : (((nsum R9 : Nat) : Int) == 0) = false := by rw [beq_eq_false_iff_ne]; omega
                rw [this] at hq
                simp at hq
  · clear F1 N1
    rintro m₁ nx h₁ tk₁ _ ⟨vsR1, nR1, R1, rfl, hiR1, hR1, hRl1, hRb1, e1⟩ F₁ N₁
    (try k_extra "MY end")
    have U := Stage.use next (by k_is)
    exact U dp un gd outer base g L fa cd h₁ m₁ _ s tk₁ B X T CH hd hu hL F₁ (fun p hp => N₁ p (.tail _ hp)) ⟨rd, vsD, nD, r, vsR1, nR1, oD, ps, R1, e1, rfl, hiR1, hR1, by omega⟩
end
end
end Mine
open Mine
theorem PySem.Challenge.cw_wu0038_01_holds : PySem.Challenge.rw_wu0038_01.Holds :=
  Mine.hd (by
  w_strict (k_go0)
  rename Fr _ _ _ _ => F1
  rename News _ _ _ _ => N1
  rename _ < _ => l0
  rename ¬ (_ < _) => h63
  rename CodeHd _ _ _ => CH
  rename Below _ _ _ _ => B
  rename Top topProg _ _ _ _ _ => T
  rename Frag.In _ _ => X
  rename IntsAre _ _ => hI
  rename Heap.IsList (ghostOf _ _) _ _ => hl
  rename Shared.gens _ = #[] => hgens
  rename Obj.data _ = Data.cell _ => hcell
  refine wpAny_mono (Stage.use (stage0 (stage3 (stage4 (stage7 (stage8 (stage9 stage10)))))) (by k_is) _ _ _ _ _ _ _ _ _ _ _ _ _ _ B X T CH ?d1 ?d2 l0 F1 N1 ?P) ?Q ?E
  · decide +kernel
  · decide +kernel
  · exact ⟨_, _, _, _, _, rfl, hl, hI, by omega, rfl, hcell⟩
  · rintro f s' ⟨rfl, L, h', tk', m', ps, rfl, F, N⟩
    refine ⟨goodW_bool F hgens (raisesW_false ?_) ?_, GrownAt.of N (.head _), trivial⟩
    · wrow_none_raised
    · first | kc_post | wrow_post
  · exact fun _ _ x => x.elim)
