import PyProof.Rows.All
import Wide.All
import OpenK.AllK
import Wide.FinOn
import Lean
import PySem.Challenge.RW_oy0045_01
set_option Elab.async false
set_option compiler.extract_closed false
section
open PySem PySem.W PyProof.Rows
namespace Mine
set_option maxRecDepth 100000 in
set_option maxHeartbeats 8000000 in
open_top hd for PySem.Challenge.rw_oy0045_01
end Mine
end
local macro_rules | `(tactic| walk_at $s:str) => `(tactic| k_extra $s)
section
open PySem PySem.W PyProof.Rows PySem.Calls
namespace Mine
noncomputable abbrev PG : Program := Challenge.rw_oy0045_01.row.prog

/-- the surroundings of a call -/
noncomputable abbrev Ar (dp un : Nat) (gd : Option (List Code)) (outer : List Env) : Around := { handled := none, depth := dp, frames := some outer, guards := gd, units := un }

noncomputable abbrev Keeps (h h' : Heap) : Prop := ∀ b o, h.get? b = some o → h'.get? b = some o

/-- a contract of a def of the text: from any heap that holds the text's own objects it comes back with P, all that stood is as it was -/
noncomputable def Fn (w : World) (f : Addr) (k : Nat) (args : List Value) (kw : List (Str × Value)) (P : Heap → Value → Heap → Prop) : Prop :=
  ∀ (p : Program) (loose : List Str) (mean : ExcName → Option Value) (mg mb : Str → Option Value) (base : Heap) (outer : List Env) (dp un : Nat) (gd : Option (List Code)) (s : Shared) (Q E : Value → Shared → Prop),
    Below (Ar dp un gd outer) base outer s.heap → (Mine.hd.heap_39 w.params).In s.heap → Top p loose mean mg mb s.heap →
    dp + k < recursionLimit → un + 8 * k < cLine →
    (∀ v h' tk', Keeps s.heap h' → P s.heap v h' → Q v { s with heap := h', toks := tk' }) →
    wpAny (model Challenge.rw_oy0045_01.row.prog w) (Ar dp un gd outer) (call (.ref f) args kw) Q E s

theorem enter0 {prog : Program} {w : World} {A : Around} {R : Result → Shared → Prop} {s : Shared} {K : Frag} {p : Program} {loose : List Str} {mean : ExcName → Option Value} {mg mb : Str → Option Value} {base : Heap} {outer : List Env}
    {name qual : Str} {params : Arguments} {body : List Stmt} {scope : Scope} {dV kV doc pm cdv ct oc : Value} {an od : Option Addr} {osl : Array (Option Value)} {f : Addr} {args : Args} {binds : List (Str × Value)}
    (B : Below A base outer s.heap) (X : K.In s.heap) (T : Top p loose mean mg mb s.heap)
    (ho : K.lookup f = some ⟨oc, od, .func (fnOf name qual params body scope dV kV doc pm an cdv ct), osl⟩) (hcd : codeIn K cdv qual = true) (hroom : A.depth < recursionLimit)
    (hbind : BindsTo s (fnOf name qual params body scope dV kV doc pm an cdv ct) args binds) (hloc : ∀ y ∈ binds, scope.names.lookup y.1 = some .local)
    (h : ∀ L' h₁, Fr s.heap L' h₁ (fun y => binds.reverse.lookup y) → News s.heap L' h₁ [] →
      wpAny (model prog w) (A.deeper (envOf qual scope L' f cdv)) (execs body (envOf qual scope L' f cdv))
        (fun fl s' => R (.ok (.ret (match fl with | .ret v => v | _ => .none))) s')
        (fun e s' => wpAny (model prog w) (A.deeper (envOf qual scope L' f cdv)) (leaving (envOf qual scope L' f cdv) e) (fun _ s'' => R (.error e) s'') (fun e' s'' => R (.error e') s'') s')
        { s with heap := h₁, toks := s.toks + binds.length })
    (hco : scope.isCoroutine = false) (hgen : scope.isGenerator = false) (hk : scope.kind = .function)
    (hcell : ∀ x ∈ scope.names, x.2 ≠ .cell) : codeAny (model prog w) A (.call (.ref f) args) R s := by
  refine codeAny_call_def (fd := fnOf name qual params body scope dV kV doc pm an cdv ct) (body := body) (binds := binds) hroom (X _ _ ho) rfl T.nolimit (codeRec_of X hcd) rfl hbind hcell hloc (fun h₁ hns hk₁ => ?_) hco hgen hk
  exact h s.heap.objs.size h₁ ⟨hns, hk₁, Nat.le_refl _⟩ News.nil

theorem fr_keeps {h₀ h h' : Heap} {L : Addr} {m : Str → Option Value} (F : Fr h₀ L h m) (k : Keeps h h') : Fr h₀ L h' m := by
  obtain ⟨oL, a1, a2, hL, a3⟩ := F.ns
  exact ⟨⟨oL, a1, a2, k _ _ hL, a3⟩, fun b o e => k _ _ (F.keep b o e), F.above⟩
theorem news_keeps {h₀ h h' : Heap} {L : Addr} {news : List (Addr × Obj)} (N : News h₀ L h news) (k : Keeps h h') : News h₀ L h' news :=
  fun p hp => ⟨k _ _ (N p hp).1, (N p hp).2⟩

/-- a contract at a call within a frame -/
theorem Fn.use {w : World} {f : Addr} {k : Nat} {args : List Value} {kw : List (Str × Value)} {P : Heap → Value → Heap → Prop} {p : Program} {loose : List Str} {mean : ExcName → Option Value} {mg mb : Str → Option Value}
    {base h₀ : Heap} {outer : List Env} {dp un : Nat} {gd : Option (List Code)} {s : Shared} {Q E : Value → Shared → Prop} {env : Env} {L : Addr} {m : Str → Option Value} {news : List (Addr × Obj)}
    (C : Fn w f k args kw P) (B : Below (Ar dp un gd outer) base outer h₀) (F : Fr h₀ L s.heap m) (N : News h₀ L s.heap news) (X : (Mine.hd.heap_39 w.params).In h₀) (T : Top p loose mean mg mb h₀)
    (hf : env.frame = some L) (hk : env.scope.kind = .function) (hd : dp + 1 + k < recursionLimit) (hu : un + 3 + 8 * k < cLine)
    (h : ∀ v h' tk', Fr h₀ L h' m → News h₀ L h' news → Keeps s.heap h' → P s.heap v h' → Q v { s with heap := h', toks := tk' }) :
    wpAny (model Challenge.rw_oy0045_01.row.prog w) ((Ar dp un gd outer).deeper env) (call (.ref f) args kw) Q E s :=
  C p loose mean mg mb base (env :: outer) (dp + 1) (un + 3) gd s Q E (pushX B F hf hk) (X.keeps F.keep) (T.keeps F.keep) hd hu
    fun v h' tk' kp hP => h v h' tk' (fr_keeps F kp) (news_keeps N kp) kp hP

/-- a contract with a word about the heap at the call -/
noncomputable def FnP (w : World) (f : Addr) (k : Nat) (args : List Value) (Pre : Heap → Prop) (P : Heap → Value → Heap → Prop) : Prop :=
  ∀ (p : Program) (loose : List Str) (mean : ExcName → Option Value) (mg mb : Str → Option Value) (base : Heap) (outer : List Env) (dp un : Nat) (gd : Option (List Code)) (s : Shared) (Q E : Value → Shared → Prop),
    Below (Ar dp un gd outer) base outer s.heap → (Mine.hd.heap_39 w.params).In s.heap → Top p loose mean mg mb s.heap →
    dp + k < recursionLimit → un + 8 * k < cLine → Pre s.heap →
    (∀ v h' tk', Keeps s.heap h' → P s.heap v h' → Q v { s with heap := h', toks := tk' }) →
    wpAny (model Challenge.rw_oy0045_01.row.prog w) (Ar dp un gd outer) (call (.ref f) args) Q E s
theorem FnP.use {w : World} {f : Addr} {k : Nat} {args : List Value} {Pre : Heap → Prop} {P : Heap → Value → Heap → Prop} {p : Program} {loose : List Str} {mean : ExcName → Option Value} {mg mb : Str → Option Value}
    {base h₀ : Heap} {outer : List Env} {dp un : Nat} {gd : Option (List Code)} {s : Shared} {Q E : Value → Shared → Prop} {env : Env} {L : Addr} {m : Str → Option Value} {news : List (Addr × Obj)}
    (C : FnP w f k args Pre P) (B : Below (Ar dp un gd outer) base outer h₀) (F : Fr h₀ L s.heap m) (N : News h₀ L s.heap news) (X : (Mine.hd.heap_39 w.params).In h₀) (T : Top p loose mean mg mb h₀)
    (hf : env.frame = some L) (hk : env.scope.kind = .function) (hd : dp + 1 + k < recursionLimit) (hu : un + 3 + 8 * k < cLine) (hp : Pre s.heap)
    (h : ∀ v h' tk', Fr h₀ L h' m → News h₀ L h' news → Keeps s.heap h' → P s.heap v h' → Q v { s with heap := h', toks := tk' }) :
    wpAny (model Challenge.rw_oy0045_01.row.prog w) ((Ar dp un gd outer).deeper env) (call (.ref f) args) Q E s :=
  C p loose mean mg mb base (env :: outer) (dp + 1) (un + 3) gd s Q E (pushX B F hf hk) (X.keeps F.keep) (T.keeps F.keep) hd hu hp
    fun v h' tk' kp hP => h v h' tk' (fr_keeps F kp) (news_keeps N kp) kp hP
end Mine
end
section
open PySem PySem.W PyProof.Rows PySem.Calls
namespace Mine
noncomputable def cmpL (a b : Str) : Int := b2i (decide (b.cps.toList < a.cps.toList)) - b2i (decide (a.cps.toList < b.cps.toList))
set_option maxRecDepth 100000 in
set_option maxHeartbeats 8000000 in
theorem strxfrm_spec (w : World) (a : Str) (t : Tok) : Fn w 35 1 [.str a t] [] (fun _ v _ => ∃ t, v = .str a t) := by
  unfold Fn
  k_fill
  intro p loose mean mg mb base outer dp un gd s Q E B X T hd hu hret
  refine wpAny_call ?_
  k_dflt (refine' enter0 (binds := [(Str.ofString "s", .str a t)]) ?k1 ?k3 ?k5 ?k6 ?k7 ?k8 ?k9 ?kB ?_ ?c2 ?c3 ?c4 ?c5; (case k1 => exact B); (case k3 => exact X); (case k5 => exact T); (case k6 => k_is); (case k7 => k_is); (case k8 => ktr_room); (case k9 => exact BindsTo.of_eq rfl); (case c5 => decide); (case kB => exact locs rfl); (case c2 => exact rfl); (case c3 => exact rfl); (case c4 => exact rfl); k_whole; intro L' h' F' N'; (try dsimp only [List.reverse_cons, List.reverse_nil, List.nil_append, List.cons_append] at F'); (try dsimp only); (try k_fold))
  k_steps
  all_goals (refine' hret _ _ _ (Fr.keep ?F) ?P; (case F => assumption); (case P => exact ⟨_, rfl⟩))
set_option maxRecDepth 100000 in
set_option maxHeartbeats 8000000 in
theorem imode_spec (w : World) (n : Int) (t : Tok) : Fn w 72 1 [.int n t] [] (fun _ v _ => ∃ t, v = .int (Builtin.bitAnd n 4095) t) := by
  unfold Fn
  k_fill
  intro p loose mean mg mb base outer dp un gd s Q E B X T hd hu hret
  refine wpAny_call ?_
  k_dflt (refine' enter0 (binds := [(Str.ofString "mode", .int n t)]) ?k1 ?k3 ?k5 ?k6 ?k7 ?k8 ?k9 ?kB ?_ ?c2 ?c3 ?c4 ?c5; (case k1 => exact B); (case k3 => exact X); (case k5 => exact T); (case k6 => k_is); (case k7 => k_is); (case k8 => ktr_room); (case k9 => exact BindsTo.of_eq rfl); (case c5 => decide); (case kB => exact locs rfl); (case c2 => exact rfl); (case c3 => exact rfl); (case c4 => exact rfl); k_whole; intro L' h' F' N'; (try dsimp only [List.reverse_cons, List.reverse_nil, List.nil_append, List.cons_append] at F'); (try dsimp only); (try k_fold))
  k_steps
  all_goals (refine' hret _ _ _ (Fr.keep ?F) ?P; (case F => assumption); (case P => exact ⟨_, rfl⟩))
set_option maxRecDepth 100000 in
set_option maxHeartbeats 8000000 in
theorem ifmt_spec (w : World) (n : Int) (t : Tok) : Fn w 79 1 [.int n t] [] (fun _ v _ => ∃ t, v = .int (Builtin.bitAnd n 61440) t) := by
  unfold Fn
  k_fill
  intro p loose mean mg mb base outer dp un gd s Q E B X T hd hu hret
  refine wpAny_call ?_
  k_dflt (refine' enter0 (binds := [(Str.ofString "mode", .int n t)]) ?k1 ?k3 ?k5 ?k6 ?k7 ?k8 ?k9 ?kB ?_ ?c2 ?c3 ?c4 ?c5; (case k1 => exact B); (case k3 => exact X); (case k5 => exact T); (case k6 => k_is); (case k7 => k_is); (case k8 => ktr_room); (case k9 => exact BindsTo.of_eq rfl); (case c5 => decide); (case kB => exact locs rfl); (case c2 => exact rfl); (case c3 => exact rfl); (case c4 => exact rfl); k_whole; intro L' h' F' N'; (try dsimp only [List.reverse_cons, List.reverse_nil, List.nil_append, List.cons_append] at F'); (try dsimp only); (try k_fold))
  k_steps
  all_goals (refine' hret _ _ _ (Fr.keep ?F) ?P; (case F => assumption); (case P => exact ⟨_, rfl⟩))
set_option maxRecDepth 100000 in
set_option maxHeartbeats 8000000 in
theorem strcoll_spec (w : World) (a b : Str) (t u : Tok) : Fn w 28 1 [.str a t, .str b u] [] (fun _ v _ => ∃ t, v = .int (cmpL a b) t) := by
  unfold Fn
  k_fill
  intro p loose mean mg mb base outer dp un gd s Q E B X T hd hu hret
  refine wpAny_call ?_
  k_dflt (refine' enter0 (binds := [(Str.ofString "a", .str a t), (Str.ofString "b", .str b u)]) ?k1 ?k3 ?k5 ?k6 ?k7 ?k8 ?k9 ?kB ?_ ?c2 ?c3 ?c4 ?c5; (case k1 => exact B); (case k3 => exact X); (case k5 => exact T); (case k6 => k_is); (case k7 => k_is); (case k8 => ktr_room); (case k9 => exact BindsTo.of_eq rfl); (case c5 => decide); (case kB => exact locs rfl); (case c2 => exact rfl); (case c3 => exact rfl); (case c4 => exact rfl); k_whole; intro L' h' F' N'; (try dsimp only [List.reverse_cons, List.reverse_nil, List.nil_append, List.cons_append] at F'); (try dsimp only); (try k_fold))
  k_steps
  all_goals (refine' hret _ _ _ (Fr.keep ?F) ?P; (case F => assumption); (case P => exact ⟨_, rfl⟩))
theorem lines1_Leaf : True := by
  w_top off
  k_with_none
  k_with "call ref" => ((k_here; (with_reducible show wpAny _ _ (call (Value.ref 28) [Value.str _ _, Value.str _ _] _) _ _ _); k_dflt (refine' Fn.use (strcoll_spec _ _ _ _ _) ?k1_kw ?k2_kw ?k3_kw ?k4_kw ?k5_kw ?k6_kw ?k7_kw ?k8_kw ?k9_kw ?_; (case k1_kw => k_asm); (case k2_kw => k_asm); (case k3_kw => k_asm); (case k4_kw => k_asm); (case k5_kw => k_asm); (case k6_kw => exact rfl); (case k7_kw => exact rfl); (case k8_kw => omega); (case k9_kw => omega)); intro _ _ _ _ _ _ hP'; obtain ⟨_, e'⟩ := hP'; subst e'; (try dsimp only); (try k_fold)))
  trivial
set_option maxRecDepth 100000 in
set_option maxHeartbeats 8000000 in
theorem told_spec (w : World) (a b : Str) (t u : Tok) : Fn w 133 2 [.str a t, .str b u] [] (fun _ v _ => ∃ t, v = .int (cmpL a b) t) := by
  unfold Fn
  k_fill
  intro p loose mean mg mb base outer dp un gd s Q E B X T hd hu hret
  refine wpAny_call ?_
  k_dflt (refine' enter0 (binds := [(Str.ofString "one", .str a t), (Str.ofString "other", .str b u)]) ?k1 ?k3 ?k5 ?k6 ?k7 ?k8 ?k9 ?kB ?_ ?c2 ?c3 ?c4 ?c5; (case k1 => exact B); (case k3 => exact X); (case k5 => exact T); (case k6 => k_is); (case k7 => k_is); (case k8 => ktr_room); (case k9 => exact BindsTo.of_eq rfl); (case c5 => decide); (case kB => exact locs rfl); (case c2 => exact rfl); (case c3 => exact rfl); (case c4 => exact rfl); k_whole; intro L' h' F' N'; (try dsimp only [List.reverse_cons, List.reverse_nil, List.nil_append, List.cons_append] at F'); (try dsimp only); (try k_fold))
  k_steps
  all_goals (refine' hret _ _ _ (Fr.keep ?F) ?P; (case F => assumption); (case P => exact ⟨_, rfl⟩))

theorem lines2_Leaf : True := by
  k_with "call type:type" => ((k_here; (with_reducible show wpAny _ _ (call (Value.type "type") [Value.bytes _ _]) _ _ _); refine call_type_of (Tx := "bytes") (typeIs_bytes _ _ _) (by decide +kernel) ?_))
  trivial
set_option maxRecDepth 100000 in
set_option maxHeartbeats 8000000 in
theorem buffer_spec (w : World) (a : Array UInt8) (t : Tok) : Fn w 42 1 [.bytes a t] [] (fun _ v _ => v = .bytes a t) := by
  unfold Fn
  k_fill
  intro p loose mean mg mb base outer dp un gd s Q E B X T hd hu hret
  refine wpAny_call ?_
  k_dflt (refine' enter0 (binds := [(Str.ofString "data", .bytes a t)]) ?k1 ?k3 ?k5 ?k6 ?k7 ?k8 ?k9 ?kB ?_ ?c2 ?c3 ?c4 ?c5; (case k1 => exact B); (case k3 => exact X); (case k5 => exact T); (case k6 => k_is); (case k7 => k_is); (case k8 => ktr_room); (case k9 => exact BindsTo.of_eq rfl); (case c5 => decide); (case kB => exact locs rfl); (case c2 => exact rfl); (case c3 => exact rfl); (case c4 => exact rfl); k_whole; intro L' h' F' N'; (try dsimp only [List.reverse_cons, List.reverse_nil, List.nil_append, List.cons_append] at F'); (try dsimp only); (try k_fold))
  k_steps
  all_goals (refine' hret _ _ _ (Fr.keep ?F) ?P; (case F => assumption); (case P => exact rfl))
set_option maxRecDepth 100000 in
set_option maxHeartbeats 8000000 in
theorem truth_spec (w : World)  : Fn w 49 1 [.bool false] [] (fun _ v _ => v = .bool false) := by
  unfold Fn
  k_fill
  intro p loose mean mg mb base outer dp un gd s Q E B X T hd hu hret
  refine wpAny_call ?_
  k_dflt (refine' enter0 (binds := [(Str.ofString "x", .bool false)]) ?k1 ?k3 ?k5 ?k6 ?k7 ?k8 ?k9 ?kB ?_ ?c2 ?c3 ?c4 ?c5; (case k1 => exact B); (case k3 => exact X); (case k5 => exact T); (case k6 => k_is); (case k7 => k_is); (case k8 => ktr_room); (case k9 => exact BindsTo.of_eq rfl); (case c5 => decide); (case kB => exact locs rfl); (case c2 => exact rfl); (case c3 => exact rfl); (case c4 => exact rfl); k_whole; intro L' h' F' N'; (try dsimp only [List.reverse_cons, List.reverse_nil, List.nil_append, List.cons_append] at F'); (try dsimp only); (try k_fold))
  k_steps
  all_goals (refine' hret _ _ _ (Fr.keep ?F) ?P; (case F => assumption); (case P => exact rfl))
end Mine
end
section
open PySem PySem.W PyProof.Rows PySem.Calls
namespace Mine
section
variable {prog : Program} {w : World} {A : Around} {E : Value → Shared → Prop} {h : Heap} {g : Array GenState} {d : Drawn} {tk : Nat} {o : OsState} {a b : Int} {t u : Tok} {Q : Value → Shared → Prop}
theorem const_c {env : Env} {i : Int} {k : Nat} {pos : Pos} (H : ∀ t' k', Q (.int i t') ⟨h, g, d, k', o⟩) : wpAny (model prog w) A (eval (.Constant (.int i) k pos) env) Q E ⟨h, g, d, tk, o⟩ := wpAny_Constant_int (H _ _)
theorem add_c (H : ∀ t' k', Q (.int (a + b) t') ⟨h, g, d, k', o⟩) : wpAny (model prog w) A (binaryOp .Add (.int a t) (.int b u)) Q E ⟨h, g, d, tk, o⟩ := add_int (H _ _)
theorem sub_c (H : ∀ t' k', Q (.int (a - b) t') ⟨h, g, d, k', o⟩) : wpAny (model prog w) A (binaryOp .Sub (.int a t) (.int b u)) Q E ⟨h, g, d, tk, o⟩ := sub_int (H _ _)
theorem and_c (H : ∀ t' k', Q (.int (Builtin.bitAnd a b) t') ⟨h, g, d, k', o⟩) : wpAny (model prog w) A (binaryOp .BitAnd (.int a t) (.int b u)) Q E ⟨h, g, d, tk, o⟩ := and_int (H _ _)
theorem or_c (H : ∀ t' k', Q (.int (Builtin.bitOr a b) t') ⟨h, g, d, k', o⟩) : wpAny (model prog w) A (binaryOp .BitOr (.int a t) (.int b u)) Q E ⟨h, g, d, tk, o⟩ := or_int (H _ _)
theorem xor_c (H : ∀ t' k', Q (.int (Builtin.bitXor a b) t') ⟨h, g, d, k', o⟩) : wpAny (model prog w) A (binaryOp .BitXor (.int a t) (.int b u)) Q E ⟨h, g, d, tk, o⟩ := xor_int (H _ _)
theorem mod_c (hb : 0 < b) (H : ∀ t' k', Q (.int (a % b) t') ⟨h, g, d, k', o⟩) : wpAny (model prog w) A (binaryOp .Mod (.int a t) (.int b u)) Q E ⟨h, g, d, tk, o⟩ :=
  mod_int' (by omega) (by rw [Int.fmod_eq_emod_of_nonneg _ (Int.le_of_lt hb)]; exact H _ _)
theorem div_c (hb : 0 < b) (hs : b < 2 ^ 64) (H : ∀ t' k', Q (.int (a / b) t') ⟨h, g, d, k', o⟩) : wpAny (model prog w) A (binaryOp .FloorDiv (.int a t) (.int b u)) Q E ⟨h, g, d, tk, o⟩ :=
  floordiv_int (by omega) (by rw [Int.fdiv_eq_ediv_of_nonneg _ (Int.le_of_lt hb)]; exact H _ _) (Or.inl (PyProof.noPylong_of_log2 (by
    have h1 : b.natAbs < 2 ^ 64 := by omega
    have h2 := (Nat.log2_lt (by omega : b.natAbs ≠ 0)).mpr h1
    omega)))
theorem mul_c (ha : -(2 ^ 64) < a ∧ a < 2 ^ 64) (hb : -(2 ^ 64) < b ∧ b < 2 ^ 64) (H : ∀ t' k', Q (.int (a * b) t') ⟨h, g, d, k', o⟩) : wpAny (model prog w) A (binaryOp .Mult (.int a t) (.int b u)) Q E ⟨h, g, d, tk, o⟩ :=
  mul_int (H _ _) (IntMulOk.of_le (intBits_le_iff.mpr (by omega : a.natAbs < 2 ^ 64)) (intBits_le_iff.mpr (by omega : b.natAbs < 2 ^ 64)) (by decide))
theorem shl_c (hn : 0 ≤ b ∧ b ≤ 1000) (ha : -(2 ^ 64) < a ∧ a < 2 ^ 64) (H : ∀ t' k', Q (.int (a * 2 ^ b.toNat) t') ⟨h, g, d, k', o⟩) : wpAny (model prog w) A (binaryOp .LShift (.int a t) (.int b u)) Q E ⟨h, g, d, tk, o⟩ :=
  lshift_int_small hn.1 (by omega) (by omega) (H _ _)
theorem shr_c (hn : 0 ≤ b) (H : ∀ t' k', Q (.int (a / 2 ^ b.toNat) t') ⟨h, g, d, k', o⟩) : wpAny (model prog w) A (binaryOp .RShift (.int a t) (.int b u)) Q E ⟨h, g, d, tk, o⟩ :=
  rshift_int hn (by rw [Int.fdiv_eq_ediv_of_nonneg _ (Int.le_of_lt (Int.pow_pos (by decide)))]; exact H _ _)
theorem pow_c (hn : 0 ≤ b ∧ b ≤ 1000) (ha : -(2 ^ 64) < a ∧ a < 2 ^ 64) (H : ∀ t' k', Q (.int (a ^ b.toNat) t') ⟨h, g, d, k', o⟩) : wpAny (model prog w) A (binaryOp .Pow (.int a t) (.int b u)) Q E ⟨h, g, d, tk, o⟩ :=
  pow_int_small hn.1 (by omega) (by omega) (H _ _)
end
end Mine
end
section
open PySem PySem.W PyProof.Rows PySem.Calls
namespace Mine
noncomputable def GotI (z : Int) (h : Heap) (g : Array GenState) (d : Drawn) (o : OsState) (v : Value) (s' : Shared) : Prop := ∃ t k, v = Value.int z t ∧ s' = ⟨h, g, d, k, o⟩
section
variable {prog : Program} {w : World} {A : Around} {E : Value → Shared → Prop} {h : Heap} {g : Array GenState} {d : Drawn} {tk : Nat} {o : OsState} {env : Env} {pos : Pos}
theorem got_go {e : Expr} {z : Int} {Q : Value → Shared → Prop} (h1 : wpAny (model prog w) A (eval e env) (GotI z h g d o) E ⟨h, g, d, tk, o⟩) (h2 : ∀ t k, Q (.int z t) ⟨h, g, d, k, o⟩) : wpAny (model prog w) A (eval e env) Q E ⟨h, g, d, tk, o⟩ :=
  wpAny_mono h1 (fun v s ⟨t, k, e1, e2⟩ => by subst e1; subst e2; exact h2 t k) fun _ _ e => e
/-- a conditional display of two numbers: one path -/
theorem ifexp_c {test body orelse : Expr} {Q : Value → Shared → Prop} (c : Prop) [Decidable c] (x y : Int)
    (H1 : wpAny (model prog w) A (isTrue test env (eval test env)) (fun b s₂ => if b = true then wpAny (model prog w) A (eval body env) (GotI (if c then x else y) h g d o) E s₂ else wpAny (model prog w) A (eval orelse env) (GotI (if c then x else y) h g d o) E s₂) E ⟨h, g, d, tk, o⟩)
    (H2 : ∀ t' k', Q (.int (if c then x else y) t') ⟨h, g, d, k', o⟩) : wpAny (model prog w) A (eval (.IfExp test body orelse pos) env) Q E ⟨h, g, d, tk, o⟩ :=
  got_go (IfExp_ H1) H2
theorem got_pos {k : Nat} {c : Prop} [Decidable c] {x y : Int} {t : Tok} (hc : c) : GotI (if c then x else y) h g d o (.int x t) ⟨h, g, d, k, o⟩ := ⟨t, k, by rw [if_pos hc], rfl⟩
theorem got_neg {k : Nat} {c : Prop} [Decidable c] {x y : Int} {t : Tok} (hc : ¬ c) : GotI (if c then x else y) h g d o (.int y t) ⟨h, g, d, k, o⟩ := ⟨t, k, by rw [if_neg hc], rfl⟩
noncomputable def GotB (c : Bool) (h : Heap) (g : Array GenState) (d : Drawn) (o : OsState) (b : Bool) (s' : Shared) : Prop := ∃ k, c = b ∧ s' = ⟨h, g, d, k, o⟩
theorem gotb {c b : Bool} {k : Nat} (e : c = b) : GotB c h g d o b ⟨h, g, d, k, o⟩ := ⟨k, e, rfl⟩
/-- a test: one path -/
theorem istrue_c {e : Expr} {whole : Sem Value} {Q : Bool → Shared → Prop} (c : Bool) (H1 : wpAny (model prog w) A (isTrue e env whole) (GotB c h g d o) E ⟨h, g, d, tk, o⟩) (H2 : ∀ k, Q c ⟨h, g, d, k, o⟩) : wpAny (model prog w) A (isTrue e env whole) Q E ⟨h, g, d, tk, o⟩ :=
  wpAny_mono H1 (fun b s ⟨k, e1, e2⟩ => by subst e1; subst e2; exact H2 k) fun _ _ e => e
theorem bin_c {l r : Expr} {op : Operator} {a b z : Int} (h1 : ∀ tk, wpAny (model prog w) A (eval l env) (GotI a h g d o) E ⟨h, g, d, tk, o⟩) (h2 : ∀ tk, wpAny (model prog w) A (eval r env) (GotI b h g d o) E ⟨h, g, d, tk, o⟩)
    (h3 : ∀ t u tk, wpAny (model prog w) A (binaryOp op (.int a t) (.int b u)) (GotI z h g d o) E ⟨h, g, d, tk, o⟩) : wpAny (model prog w) A (eval (.BinOp l op r pos) env) (GotI z h g d o) E ⟨h, g, d, tk, o⟩ :=
  wpAny_BinOp (got_go (h1 _) fun t _ => got_go (h2 _) fun u _ => h3 t u _)
theorem got_is {z : Int} {t : Tok} {k : Nat} : GotI z h g d o (.int z t) ⟨h, g, d, k, o⟩ := ⟨t, k, rfl, rfl⟩
/-- an operator on two whole numbers, and what it gives -/
inductive OpIs : Operator → Int → Int → Int → Prop
  | add {a b : Int} : OpIs .Add a b (a + b)
  | sub {a b : Int} : OpIs .Sub a b (a - b)
  | or {a b : Int} : OpIs .BitOr a b (Builtin.bitOr a b)
  | mod {a b : Int} : 0 < b → OpIs .Mod a b (a % b)
  | div {a b : Int} : 0 < b ∧ b < 2 ^ 64 → OpIs .FloorDiv a b (a / b)
  | mul {a b : Int} : -(2 ^ 64) < a ∧ a < 2 ^ 64 → -(2 ^ 64) < b ∧ b < 2 ^ 64 → OpIs .Mult a b (a * b)
  | shl {a b : Int} : 0 ≤ b ∧ b ≤ 1000 → -(2 ^ 64) < a ∧ a < 2 ^ 64 → OpIs .LShift a b (a * 2 ^ b.toNat)
  | shr {a b : Int} : 0 ≤ b → OpIs .RShift a b (a / 2 ^ b.toNat)
  | pow {a b : Int} : 0 ≤ b ∧ b ≤ 1000 → -(2 ^ 64) < a ∧ a < 2 ^ 64 → OpIs .Pow a b (a ^ b.toNat)
theorem op_c {op : Operator} {a b z : Int} {t u : Tok} (hO : OpIs op a b z) : wpAny (model prog w) A (binaryOp op (.int a t) (.int b u)) (GotI z h g d o) E ⟨h, g, d, tk, o⟩ := by
  cases hO with
  | add => exact add_c fun _ _ => got_is
  | sub => exact sub_c fun _ _ => got_is
  | or => exact or_c fun _ _ => got_is
  | mod c => exact mod_c c fun _ _ => got_is
  | div c => exact div_c c.1 c.2 fun _ _ => got_is
  | mul c1 c2 => exact mul_c c1 c2 fun _ _ => got_is
  | shl c1 c2 => exact shl_c c1 c2 fun _ _ => got_is
  | shr c => exact shr_c c fun _ _ => got_is
  | pow c1 c2 => exact pow_c c1 c2 fun _ _ => got_is
/-- an expression of whole numbers, and what it gives (not an inductive type: each way is a lemma) -/
noncomputable def Ari (env : Env) (m : Str → Option Value) (e : Expr) (z : Int) : Prop :=
  ∀ (prog : Program) (w : World) (A : Around) (E : Value → Shared → Prop) (h : Heap) (g : Array GenState) (d : Drawn) (o : OsState) (h₀ : Heap), env.scope.kind = .function → Fr h₀ env.locals h m → ∀ tk, wpAny (model prog w) A (eval e env) (GotI z h g d o) E ⟨h, g, d, tk, o⟩
section
variable {m : Str → Option Value} {l r : Expr} {a b : Int}
theorem Ari.const {i : Int} {k : Nat} : Ari env m (.Constant (.int i) k pos) i := fun _ _ _ _ _ _ _ _ _ _ _ _ => const_c fun _ _ => got_is
theorem Ari.name {x : Str} {v : Int} {t : Tok} (hv : m x = some (.int v t)) (hx : env.kindOf x = some .local) (hd : (x == ("__debug__" : Str)) = false) : Ari env m (.Name x pos) v := fun _ _ _ _ _ _ _ _ _ hk F _ => wpAny_Name (wpAny_loadName_local hk hx F.ns hv got_is) hd
theorem Ari.bin {op : Operator} {z : Int} (i1 : Ari env m l a) (i2 : Ari env m r b) (hO : OpIs op a b z) : Ari env m (.BinOp l op r pos) z := fun p w A E h g d o h₀ hk F _ => bin_c (i1 p w A E h g d o h₀ hk F) (i2 p w A E h g d o h₀ hk F) fun _ _ _ => op_c hO
end
theorem Ari.run {h₀ : Heap} {m : Str → Option Value} {e : Expr} {z : Int} (hk : env.scope.kind = .function) (F : Fr h₀ env.locals h m) (hA : Ari env m e z) (tk : Nat) : wpAny (model prog w) A (eval e env) (GotI z h g d o) E ⟨h, g, d, tk, o⟩ := hA prog w A E h g d o h₀ hk F tk
theorem ari_c {h₀ : Heap} {m : Str → Option Value} {e : Expr} {z : Int} {Q : Value → Shared → Prop} (hk : env.scope.kind = .function) (F : Fr h₀ env.locals h m) (hA : Ari env m e z) (H : ∀ t' k', Q (.int z t') ⟨h, g, d, k', o⟩) :
    wpAny (model prog w) A (eval e env) Q E ⟨h, g, d, tk, o⟩ := got_go (hA.run hk F _) H
end
end Mine
end
section
open PySem PySem.W PyProof.Rows PySem.Calls
namespace Mine
theorem bitAnd_nat (a b : Nat) : Builtin.bitAnd (a : Int) (b : Int) = ((a &&& b : Nat) : Int) := by
  unfold Builtin.bitAnd
  rw [decide_eq_true (Int.natCast_nonneg a), decide_eq_true (Int.natCast_nonneg b)]
  simp
theorem and_low (l b : Nat) (h : b < 256) : (l * 256) &&& b = 0 := by
  apply Nat.eq_of_testBit_eq
  intro i
  rw [Nat.testBit_and, Nat.zero_testBit]
  by_cases hi : i < 8
  · have : (l * 256).testBit i = false := by
      have e : l * 256 = 2 ^ 8 * l := by omega
      rw [e, Nat.testBit_two_pow_mul]
      simp; omega
    rw [this]; rfl
  · have : b.testBit i = false := Nat.testBit_lt_two_pow (Nat.lt_of_lt_of_le h (by
      have : (256 : Nat) = 2 ^ 8 := by decide
      rw [this]; exact Nat.pow_le_pow_right (by decide) (by omega)))
    rw [this]; simp
theorem bitOr_low {l b : Int} (hl : 0 ≤ l) (h0 : 0 ≤ b) (h1 : b < 256) : Builtin.bitOr (l * 256) b = l * 256 + b := by
  rw [bitOr_and]
  obtain ⟨l, rfl⟩ := Int.eq_ofNat_of_zero_le hl
  obtain ⟨b, rfl⟩ := Int.eq_ofNat_of_zero_le h0
  have e : (l : Int) * 256 = ((l * 256 : Nat) : Int) := by simp
  rw [e, bitAnd_nat, and_low l b (by omega)]
  simp

theorem lines1_B64 : True := by
  w_top off
  k_with_none
  k_with "eval Constant int" => ((with_reducible refine const_c ?_; intro _ _; (try dsimp only)))
  k_with "binaryOp Add int int" => ((with_reducible refine add_c ?_; intro _ _; (try dsimp only)))
  k_with "binaryOp Sub int int" => ((with_reducible refine sub_c ?_; intro _ _; (try dsimp only)))
  k_with "binaryOp BitAnd int int" => ((with_reducible refine and_c ?_; intro _ _; (try dsimp only)))
  k_with "binaryOp BitOr int int" => ((with_reducible refine or_c ?_; intro _ _; (try dsimp only)))
  k_with "binaryOp BitXor int int" => ((with_reducible refine xor_c ?_; intro _ _; (try dsimp only)))
  k_with "binaryOp Mod int int" => ((with_reducible refine mod_c (by decide) ?_; intro _ _; (try dsimp only)))
  k_with "binaryOp FloorDiv int int" => ((with_reducible refine div_c (by decide) (by decide) ?_; intro _ _; (try dsimp only)))
  k_with "binaryOp Mult int int" => ((with_reducible refine mul_c (by constructor <;> omega) (by constructor <;> omega) ?_; intro _ _; (try dsimp only)))
  k_with "binaryOp LShift int int" => ((with_reducible refine shl_c (by constructor <;> omega) (by constructor <;> omega) ?_; intro _ _; (try dsimp only)))
  k_with "binaryOp RShift int int" => ((with_reducible refine shr_c (by omega) ?_; intro _ _; (try dsimp only)))
  k_with "binaryOp Pow int int" => ((with_reducible refine pow_c (by constructor <;> omega) (by constructor <;> omega) ?_; intro _ _; (try dsimp only)))
  k_with "eval BinOp" => ((k_here; k_dflt (refine' ari_c ?k_kw ?F_kw ?A_kw (fun _ _ => ?_); (case k_kw => rfl); (case F_kw => k_asm); (case A_kw => (repeat' (first | with_reducible refine' Ari.bin ?_ ?_ ?_ | with_reducible exact OpIs.add | with_reducible exact OpIs.sub | with_reducible exact OpIs.or | with_reducible refine' OpIs.mod ?_ | with_reducible refine' OpIs.div ?_ | with_reducible refine' OpIs.mul ?_ ?_ | with_reducible refine' OpIs.shl ?_ ?_ | with_reducible refine' OpIs.shr ?_ | with_reducible refine' OpIs.pow ?_ ?_ | with_reducible exact Ari.const | exact Ari.name rfl rfl (by decide) | (show _ ∧ _; first | decide | exact ⟨by omega, by omega⟩) | (show _ < _; first | decide | omega) | (show _ ≤ _; first | decide | omega))))); (try dsimp only)))
  k_with "call ref" => ((k_here; (with_reducible show wpAny _ _ (call (Value.ref 42) [Value.bytes _ _] _) _ _ _); k_dflt (refine' Fn.use (buffer_spec _ _ _) ?k1_kw ?k2_kw ?k3_kw ?k4_kw ?k5_kw ?k6_kw ?k7_kw ?k8_kw ?k9_kw ?_; (case k1_kw => k_asm); (case k2_kw => k_asm); (case k3_kw => k_asm); (case k4_kw => k_asm); (case k5_kw => k_asm); (case k6_kw => exact rfl); (case k7_kw => exact rfl); (case k8_kw => omega); (case k9_kw => omega)); intro _ _ _ _ _ _ hP'; subst hP'; (try dsimp only); (try k_fold)))
  k_with "call ref" => ((k_here; (with_reducible show wpAny _ _ (call (Value.ref 49) [Value.bool false] _) _ _ _); k_dflt (refine' Fn.use (truth_spec _) ?k1_kw ?k2_kw ?k3_kw ?k4_kw ?k5_kw ?k6_kw ?k7_kw ?k8_kw ?k9_kw ?_; (case k1_kw => k_asm); (case k2_kw => k_asm); (case k3_kw => k_asm); (case k4_kw => k_asm); (case k5_kw => k_asm); (case k6_kw => exact rfl); (case k7_kw => exact rfl); (case k8_kw => omega); (case k9_kw => omega)); intro _ _ _ _ _ _ hP'; subst hP'; (try dsimp only); (try k_fold)))
  trivial
noncomputable def b64L : List Int := [65, 66, 67, 68, 69, 70, 71, 72, 73, 74, 75, 76, 77, 78, 79, 80, 81, 82, 83, 84, 85, 86, 87, 88, 89, 90, 97, 98, 99, 100, 101, 102, 103, 104, 105, 106, 107, 108, 109, 110, 111, 112, 113, 114, 115, 116, 117, 118, 119, 120, 121, 122, 48, 49, 50, 51, 52, 53, 54, 55, 56, 57, 43, 47]
theorem b64_ints : KBw.bInts #[65, 66, 67, 68, 69, 70, 71, 72, 73, 74, 75, 76, 77, 78, 79, 80, 81, 82, 83, 84, 85, 86, 87, 88, 89, 90, 97, 98, 99, 100, 101, 102, 103, 104, 105, 106, 107, 108, 109, 110, 111, 112, 113, 114, 115, 116, 117, 118, 119, 120, 121, 122, 48, 49, 50, 51, 52, 53, 54, 55, 56, 57, 43, 47] = b64L := by decide +kernel
noncomputable def dig (i : Int) : Int := b64L.getD i.toNat 0
structure In64 (v : Int) : Prop where
  lo : 0 ≤ v
  hi : v < 64
theorem dig_in (i : Int) : 0 ≤ dig i ∧ dig i < 256 := KBw.getD_in (by decide)
section
variable {prog : Program} {w : World} {A : Around} {E : Value → Shared → Prop} {h : Heap} {g : Array GenState} {d : Drawn} {tk : Nat} {o : OsState} {a : Int} {t u : Tok} {Q : Value → Shared → Prop}
theorem and_c16 (H : ∀ v t' k', PySem.Flt.Hid (v = a % 65536) → 0 ≤ v → v < 65536 → Q (.int v t') ⟨h, g, d, k', o⟩) : wpAny (model prog w) A (binaryOp .BitAnd (.int a t) (.int 65535 u)) Q E ⟨h, g, d, tk, o⟩ :=
  and_int (H _ _ _ ⟨bitAnd_m16 a⟩ (by rw [bitAnd_m16]; omega) (by rw [bitAnd_m16]; omega))
theorem and_c6 (H : ∀ v t' k', PySem.Flt.Hid (v = a % 64) → In64 v → Q (.int v t') ⟨h, g, d, k', o⟩) : wpAny (model prog w) A (binaryOp .BitAnd (.int a t) (.int 63 u)) Q E ⟨h, g, d, tk, o⟩ :=
  and_int (H _ _ _ ⟨bitAnd_m6 a⟩ ⟨by rw [bitAnd_m6]; omega, by rw [bitAnd_m6]; omega⟩)
theorem item64 {n : Str} {p1 p2 : Pos} {l r : Expr} {op : Operator} {i : Int} (hB : In64 i) (H : ∀ t' k', Q (.int (dig i) t') ⟨h, g, d, k', o⟩) :
    wpAny (model prog w) A (subscriptTail (.Name n p1) (.BinOp l op r p2) (.bytes #[65, 66, 67, 68, 69, 70, 71, 72, 73, 74, 75, 76, 77, 78, 79, 80, 81, 82, 83, 84, 85, 86, 87, 88, 89, 90, 97, 98, 99, 100, 101, 102, 103, 104, 105, 106, 107, 108, 109, 110, 111, 112, 113, 114, 115, 116, 117, 118, 119, 120, 121, 122, 48, 49, 50, 51, 52, 53, 54, 55, 56, 57, 43, 47] t) (.int i u)) Q E ⟨h, g, d, tk, o⟩ :=
  KBw.item_K b64_ints (by decide) hB.lo hB.hi (fun t' k' _ _ => H t' k')
theorem bytes4 {h₀ : Heap} {L D : Addr} {m : Str → Option Value} {news : List (Addr × Obj)} {x1 x2 x3 x4 : Int} {t1 t2 t3 t4 : Tok} {n : Nat} (F : Fr h₀ L h m) (N : News h₀ L h news) (hh : A.handled = none)
    (hm : (D, PySem.W.listOf ((((#[].push (.int (dig x1) t1)).push (.int (dig x2) t2)).push (.int (dig x3) t3)).push (.int (dig x4) t4)) n) ∈ news)
    (H : ∀ h' r t' k, Fr h₀ L h' m → News h₀ L h' news → KBw.bInts r = [dig x1, dig x2, dig x3, dig x4] → Q (.bytes r t') ⟨h', g, d, k, o⟩) : wpAny (model prog w) A (call (.type "bytes") [.ref D]) Q E ⟨h, g, d, tk, o⟩ := by
  have hr : KBa.In [dig x1, dig x2, dig x3, dig x4] := by
    intro n hn
    simp only [List.mem_cons, List.not_mem_nil, or_false] at hn
    rcases hn with rfl | rfl | rfl | rfl <;> exact dig_in _
  exact KBa.make_K (vs := [.int (dig x1) t1, .int (dig x2) t2, .int (dig x3) t3, .int (dig x4) t4]) F N hh ⟨_, N.get hm, rfl, n, rfl⟩ (.cons _ _ (.cons _ _ (.cons _ _ (.cons _ _ .nil)))) hr (by show 4 ≤ 16777216; decide)
    (fun h' t' k F' N' hi => H h' _ t' k F' N' (KBa.ints_make hi))
end
theorem lines2_B64 : True := by
  k_with "binaryOp BitAnd int int" => (first | (with_reducible refine and_c16 ?_; intro _ _ _ _ _ _; (try dsimp only)) | (with_reducible refine and_c6 ?_; intro _ _ _ _ _; (try dsimp only)))
  k_with "pyIter bytes" => ((k_here; ((rename Fr _ _ _ _ => lF'); (rename News _ _ _ _ => lN'); (rename KBw.bInts _ = _ => lB'); (with_unfolding_all refine iter_bytesUnr (by rfl) lF' lN' lB' ?_); clear lF' lN'; intro _ l1; (try k_lt l1); revert l1; intro _)))
  k_with "subscriptTail" => ((k_here; (with_reducible show wpAny _ _ (subscriptTail _ _ (Value.bytes _ 229) (Value.int _ _)) _ _ _); k_dflt (refine item64 (by with_reducible assumption) ?_); intro _ _; (try dsimp only)))
  k_with "call type:bytes" => ((k_here; (with_reducible show wpAny _ _ (call (Value.type "bytes") [Value.ref _]) _ _ _); k_dflt (refine' bytes4 ?k1_kw ?k2_kw ?k3_kw ?k4_kw ?_; (case k1_kw => k_asm); (case k2_kw => k_asm); (case k3_kw => exact rfl); (case k4_kw => k_mem)); intro _ _ _ _ _ _ _; (try dsimp only)))
  trivial

theorem b2m6 {x : Int} (h : 0 ≤ x ∧ x < 256) : (0 * 256 + x) % 65536 = x := by omega
theorem b2m4 {x y : Int} (h : 0 ≤ x ∧ x < 256) (h' : 0 ≤ y ∧ y < 256) : (x * 256 + y) % 65536 = x * 256 + y := by omega
theorem b2m2 {x y z : Int} (h' : 0 ≤ y ∧ y < 256) (h'' : 0 ≤ z ∧ z < 256) : ((x * 256 + y) * 256 + z) % 65536 = y * 256 + z := by omega
theorem b2m5 {x : Int} (h : 0 ≤ x ∧ x < 256) : x / 4 % 64 = x / 4 := by omega
theorem b2m3 {x y : Int} (h' : 0 ≤ y ∧ y < 256) : (x * 256 + y) / 16 % 64 = x % 4 * 16 + y / 16 := by omega
theorem b2m1 {y z : Int} (h'' : 0 ≤ z ∧ z < 256) : (y * 256 + z) / 64 % 64 = y % 16 * 4 + z / 64 := by omega
theorem b2m0 {y z : Int} : (y * 256 + z) / 1 % 64 = z % 64 := by omega
theorem b2mn {x y : Int} (h : 0 ≤ x ∧ x < 256) (h' : 0 ≤ y ∧ y < 256) : 0 ≤ x * 256 + y := by omega
theorem b2a_math {b r : Array UInt8} {x y z v6 v5 v4 v3 v2 v1 v0 : Int} (hb : KBw.bInts b = [x, y, z]) (hr : KBw.bInts r = [dig v5, dig v3, dig v1, dig v0])
    (h5 : PySem.Flt.Hid (v5 = v6 / 2 ^ (0 + 8 - 6 : Int).toNat % 64)) (h6 : PySem.Flt.Hid (v6 = Builtin.bitOr (0 * 2 ^ Int.toNat 8) x % 65536))
    (h3 : PySem.Flt.Hid (v3 = v4 / 2 ^ (0 + 8 - 6 + 8 - 6 : Int).toNat % 64)) (h4 : PySem.Flt.Hid (v4 = Builtin.bitOr (v6 * 2 ^ Int.toNat 8) y % 65536))
    (h1 : PySem.Flt.Hid (v1 = v2 / 2 ^ (0 + 8 - 6 + 8 - 6 + 8 - 6 : Int).toNat % 64)) (h2 : PySem.Flt.Hid (v2 = Builtin.bitOr (v4 * 2 ^ Int.toNat 8) z % 65536))
    (h0 : PySem.Flt.Hid (v0 = v2 / 2 ^ (0 + 8 - 6 + 8 - 6 + 8 - 6 - 6 : Int).toNat % 64)) :
    KBw.bInts r = [dig (x / 4), dig (x % 4 * 16 + y / 16), dig (y % 16 * 4 + z / 64), dig (z % 64)] := by
  have bx := KBw.ints_in (b := b) (k := x) (by rw [hb]; simp)
  have by' := KBw.ints_in (b := b) (k := y) (by rw [hb]; simp)
  have bz := KBw.ints_in (b := b) (k := z) (by rw [hb]; simp)
  have e8 : (2 : Int) ^ Int.toNat 8 = 256 := by decide
  have e2 : (2 : Int) ^ (0 + 8 - 6 : Int).toNat = 4 := by decide
  have e4 : (2 : Int) ^ (0 + 8 - 6 + 8 - 6 : Int).toNat = 16 := by decide
  have e6 : (2 : Int) ^ (0 + 8 - 6 + 8 - 6 + 8 - 6 : Int).toNat = 64 := by decide
  have e0 : (2 : Int) ^ (0 + 8 - 6 + 8 - 6 + 8 - 6 - 6 : Int).toNat = 1 := by decide
  have h6 := h6.out
  have h5 := h5.out
  have h4 := h4.out
  have h3 := h3.out
  have h2 := h2.out
  have h1 := h1.out
  have h0 := h0.out
  rw [e8, bitOr_low (by decide) bx.1 bx.2, b2m6 bx] at h6
  subst h6
  rw [e8, bitOr_low bx.1 by'.1 by'.2, b2m4 bx by'] at h4
  rw [e8, h4, bitOr_low (b2mn bx by') bz.1 bz.2, b2m2 by' bz] at h2
  rw [e2, b2m5 bx] at h5
  rw [e4, h4, b2m3 by'] at h3
  rw [e6, h2, b2m1 bz] at h1
  rw [e0, h2, b2m0] at h0
  rw [hr, h5, h3, h1, h0]
set_option maxRecDepth 100000 in
set_option maxHeartbeats 8000000 in
theorem b2a_spec (w : World) (b : Array UInt8) (x y z : Int) (hb : KBw.bInts b = [x, y, z]) (t : Tok) : Fn w 57 3 [.bytes b t] [(Str.ofString "newline", .bool false)] (fun _ v _ => ∃ r t, v = .bytes r t ∧ KBw.bInts r = [dig (x / 4), dig (x % 4 * 16 + y / 16), dig (y % 16 * 4 + z / 64), dig (z % 64)]) := by
  unfold Fn
  k_fill
  intro p loose mean mg mb base outer dp un gd s Q E B X T hd hu hret
  refine wpAny_call ?_
  k_dflt (refine' enter0 (binds := [(Str.ofString "data", .bytes b t), (Str.ofString "newline", .bool false)]) ?k1 ?k3 ?k5 ?k6 ?k7 ?k8 ?k9 ?kB ?_ ?c2 ?c3 ?c4 ?c5; (case k1 => exact B); (case k3 => exact X); (case k5 => exact T); (case k6 => k_is); (case k7 => k_is); (case k8 => ktr_room); (case k9 => exact BindsTo.of_eq rfl); (case c5 => decide); (case kB => exact locs rfl); (case c2 => exact rfl); (case c3 => exact rfl); (case c4 => exact rfl); k_whole; intro L' h' F' N'; (try dsimp only [List.reverse_cons, List.reverse_nil, List.nil_append, List.cons_append] at F'); (try dsimp only); (try k_fold))
  k_steps
  all_goals (refine' hret _ _ _ (Fr.keep ?F) ⟨_, _, rfl, ?P⟩; (case F => assumption); (case P => exact b2a_math (by assumption) (by assumption) (by assumption) (by assumption) (by assumption) (by assumption) (by assumption) (by assumption) (by assumption)))
end Mine
end
section
open PySem PySem.W PyProof.Rows PySem.Calls
set_option maxRecDepth 100000
namespace Mine
noncomputable def transT (a b : Array UInt8) : Array UInt8 := (a.toList.zip b.toList).foldl (fun t x => t.setIfInBounds x.1.toNat x.2) ((Array.range 256).map (·.toUInt8))
theorem transT_size (a b : Array UInt8) : (transT a b).size = 256 := by
  unfold transT
  generalize hl : a.toList.zip b.toList = l
  have h0 : ((Array.range 256).map (·.toUInt8)).size = 256 := by simp
  generalize (Array.range 256).map (·.toUInt8) = r at h0
  clear hl
  induction l generalizing r with
  | nil => exact h0
  | cons x l ih => exact ih _ (by simpa using h0)
section
variable {prog : Program} {w : World} {M : Model} {A : Around} {E : Value → Shared → Prop} {s : Shared} {a b : Array UInt8} {t u : Tok}
theorem slot_translate : Slot "bytes" "translate" "bytes.translate" :=
  .of (owner := "bytes") (n := "translate") (by rw [typeLookup_type, builtinLookup_eq_fast]; kernel_rfl) (by decide +kernel) (by decide +kernel) (by decide +kernel)
    (by first | exact .inl (by decide +kernel) | exact .inr (by decide +kernel)) (by rw [isSubtype_type]; kernel_rfl)
theorem type_translate : typeOf (.builtin "bytes.translate") = pure (.type "method_descriptor") := by show builtinType _ = _; rw [builtinType_eq_fast]; kernel_rfl
theorem entry_translate : entryFor table "bytes.translate" = some Builtin.«bytes.translate» := by first | exact entryFor_of_fast (by kernel_rfl) | exact entryFor_of_tree (by kernel_rfl)
theorem args_translate (x y : Value) : argsOk "bytes.translate" ⟨[x, y], []⟩ := by unfold argsOk; kernel_rfl
theorem ga_bytes : typeLookup (.type "bytes") "__getattribute__" = pure (some (.builtin "bytes.__getattribute__")) := by rw [typeLookup_type, builtinLookup_eq_fast]; kernel_rfl
theorem canon_ga_bytes : (Manifest.canonical "bytes.__getattribute__" != "object.__getattribute__") = false := by decide +kernel
theorem no_getattr_bytes : typeLookup (.type "bytes") "__getattr__" = pure none := by rw [typeLookup_type, builtinLookup_eq_fast]; kernel_rfl
theorem get_translate {pl : Sem Bool} {Q : Value × List Value → Shared → Prop} (h : Q (.builtin "bytes.translate", [.bytes b t]) s) : wpAny M A (getMethod (.bytes b t) (Str.ofString "translate") pl) Q E s :=
  getMethod_value (T := "bytes") (name := Str.ofString "translate") (ga := "bytes.__getattribute__") (id := "bytes.translate") (typeIs_bytes s b t) (by intro _ x; cases x) ga_bytes canon_ga_bytes no_getattr_bytes slot_translate.lookup type_translate h
theorem like_eq {id : String} : Builtin.Bytes.bytesLike id (.bytes b t) = pure b := by
  unfold Builtin.Bytes.bytesLike
  rw [KBy.buffer_eq]
  rfl
theorem filter_none (b : Array UInt8) : b.filter (fun c => !(#[] : Array UInt8).contains c) = b := by simp
theorem call_translate {Q : Value → Shared → Prop} (ha : a.size = 256) (hb : b.size ≤ 16777216) (H : ∀ t' k', Q (.bytes (b.map fun c => a.getD c.toNat c) t') { s with toks := k' }) :
    wpAny (model prog w) A (call (.builtin "bytes.translate") [.bytes b t, .bytes a u]) Q E s := by
  refine wpAny_call_entry slot_translate (typeIs_bytes s b t) entry_translate ?_ (args_translate _ _)
  show wpAny _ _ (Builtin.Bytes.bytesLike "bytes.translate" (.bytes a u) >>= fun x => _) _ _ s
  refine wpAny_bind (wpAny_of_eq like_eq ?_)
  show wpAny _ _ (if (a.size != 256) = true then _ else _) _ _ s
  rw [if_neg (by simp [ha])]
  have e : (b.filter (fun c => !(#[] : Array UInt8).contains c)).map (fun c => a.getD c.toNat c) = b.map fun c => a.getD c.toNat c := by rw [filter_none]
  show wpAny _ _ (if ((b.filter (fun c => !(#[] : Array UInt8).contains c)).map (fun c => a.getD c.toNat c) == b) = true then _ else _) _ _ s
  rw [e]
  by_cases hq : ((b.map fun c => a.getD c.toNat c) == b) = true
  · rw [if_pos hq]
    have hq' : (b.map fun c => a.getD c.toNat c) = b := eq_of_beq hq
    refine wpAny_bind (wpAny_rule ?_)
    refine wpAny_bind ?_
    show wpAny _ _ (typeOf (.bytes b t) >>= fun x => _) _ _ _
    refine wpAny_bind (wpAny_typeOf (typeIs_bytes s b t) ?_)
    show wpAny _ _ (pure (Value.bytes b t)) _ _ _
    refine wpAny_pure (wpAny_pure ⟨_, rfl, ?_⟩)
    have := H t s.toks
    rw [hq'] at this
    exact this
  · rw [if_neg hq]
    exact wpAny_bind (wpAny_mkBytes (wpAny_pure ⟨_, rfl, H _ _⟩) (by rw [Array.size_map, sizeLine_eq]; exact hb))
theorem entry_maketrans : entryFor table "bytes.maketrans" = some Builtin.«bytes.maketrans» := by first | exact entryFor_of_fast (by kernel_rfl) | exact entryFor_of_tree (by kernel_rfl)
theorem plain_maketrans : plainId "bytes.maketrans" = true := by decide +kernel
theorem check_maketrans (x y : Value) : checkBuiltinCall "bytes.maketrans" ⟨[x, y], []⟩ = pure () := by kernel_rfl
theorem call_maketrans {Q : Value → Shared → Prop} (hs : a.size = b.size) (H : ∀ t' k', Q (.bytes (transT a b) t') { s with toks := k' }) :
    wpAny (model prog w) A (call (.builtin "bytes.maketrans") [.bytes a t, .bytes b u]) Q E s := by
  refine wpAny_call (codeAny_call_builtin plain_maketrans entry_maketrans (wpAny_of_eq (check_maketrans _ _) ?_))
  show wpAny _ _ (Builtin.Bytes.bytesLike "bytes.maketrans" (.bytes a t) >>= fun x => _) _ _ s
  refine wpAny_bind (wpAny_of_eq like_eq ?_)
  show wpAny _ _ (Builtin.Bytes.bytesLike "bytes.maketrans" (.bytes b u) >>= fun x => _) _ _ s
  refine wpAny_bind (wpAny_of_eq like_eq ?_)
  show wpAny _ _ (if (a.size != b.size) = true then _ else _) _ _ s
  rw [if_neg (by simp [hs])]
  exact wpAny_bind (wpAny_mkBytes (wpAny_pure (H _ _)) (by show (transT a b).size ≤ sizeLine; rw [transT_size, sizeLine_eq]; decide))
theorem get_maketrans {pl : Sem Bool} {K : Frag} {h₀ : Heap} {L : Addr} {m : Str → Option Value} {Q : Value × List Value → Shared → Prop} (F : Fr h₀ L s.heap m) (X₀ : K.In h₀)
    (h : ∀ k', Q (.builtin "bytes.maketrans", []) { s with toks := k' }) : wpAny (model prog w) A (getMethod (.type "bytes") (Str.ofString "maketrans") pl) Q E s := by
  have X := X₀.keeps F.keep
  have hstub : opaqueClassAbove (.type "bytes") = pure none := by unfold opaqueClassAbove; dsimp only; rw [show Manifest.isStub "bytes" = false by decide +kernel]; rfl
  have ht : typeOf (.type "bytes") = pure (.type "type") := by first | rfl | kernel_rfl
  have L0 : Looks (model prog w) s.heap (typeOf (.type "bytes")) (.type "type") := Looks.of_pure ht
  have hg : findIn K (.type "type") "__getattribute__" = some (some (.builtin "type.__getattribute__")) := type_tga
  unfold getMethod specialOf
  refine wpAny_bind (wpAny_bind (L0.here ((looks_findIn X hg).here ?_)))
  dsimp only
  rw [if_pos canon_tga]
  refine wpAny_bind (wpAny_mono (Q := fun v => Q (v, [])) (E := E) ?_ (fun _ _ z => wpAny_pure z) fun _ _ z => z)
  have LO : Looks (model prog w) s.heap (opaqueClassAbove (.type "bytes")) none := Looks.of_pure hstub
  refine cls_open (r := .val (.builtin "bytes.maketrans")) X LO L0 hg (looks_hook X (r := none) (by rfl)) (by show subIn K _ _ = _; rfl) (by show findCls K _ _ _ = _; first | kernel_rfl | rfl) ?_
  show wpAny _ _ (ret (.builtin "bytes.maketrans")) _ _ _
  refine wpAny_pure ?_
  show wpAny _ _ (handedOut (.builtin "bytes.maketrans")) _ _ _
  exact handed_on (by decide +kernel) (h _)
end
noncomputable def sg (p q : Int) (i : Int) : Int := if i = 62 then p else if i = 63 then q else dig i
theorem dig_62 : ∀ i : Fin 64, (dig (i : Nat) = 43 ↔ (i : Nat) = 62) ∧ (dig (i : Nat) = 47 ↔ (i : Nat) = 63) := by decide +kernel
theorem trans_at (p q c : UInt8) : (transT #[43, 47] #[p, q]).getD c.toNat c = if c = 47 then q else if c = 43 then p else c := by
  have hc := c.toNat_lt
  have e : transT #[43, 47] #[p, q] = (((Array.range 256).map (·.toUInt8)).setIfInBounds 43 p).setIfInBounds 47 q := rfl
  rw [e, Array.getD_eq_getD_getElem?, Array.getElem?_setIfInBounds, Array.getElem?_setIfInBounds]
  by_cases h47 : c = 47
  · subst h47; simp
  · have n47 : ¬ (47 = c.toNat) := fun h => h47 (by apply UInt8.toNat.inj; rw [← h]; rfl)
    rw [if_neg n47, if_neg h47]
    by_cases h43 : c = 43
    · subst h43; simp
    · have n43 : ¬ (43 = c.toNat) := fun h => h43 (by apply UInt8.toNat.inj; rw [← h]; rfl)
      rw [if_neg n43, if_neg h43]
      simp [hc]
theorem trans_ints {r : Array UInt8} {l : List Int} (p q : UInt8) (hr : KBw.bInts r = l.map dig) (hl : ∀ i ∈ l, 0 ≤ i ∧ i < 64) :
    KBw.bInts (r.map fun c => (transT #[43, 47] #[p, q]).getD c.toNat c) = l.map (sg p.toNat q.toNat) := by
  unfold KBw.bInts at hr ⊢
  rw [Array.toList_map, List.map_map]
  generalize r.toList = rl at hr
  induction l generalizing rl with
  | nil => cases rl with
    | nil => rfl
    | cons _ _ => simp at hr
  | cons i l ih => cases rl with
    | nil => simp at hr
    | cons c rl =>
      rw [List.map_cons, List.map_cons] at hr
      obtain ⟨h1, h2⟩ := List.cons.inj hr
      rw [List.map_cons, List.map_cons, ih (fun i hi => hl i (List.mem_cons_of_mem _ hi)) rl h2]
      congr 1
      have hi := hl i (List.mem_cons_self ..)
      show (((transT #[43, 47] #[p, q]).getD c.toNat c).toNat : Int) = _
      rw [trans_at]
      obtain ⟨n, rfl⟩ := Int.eq_ofNat_of_zero_le hi.1
      have hd := dig_62 ⟨n, by omega⟩
      simp only at hd
      unfold sg
      by_cases h47 : c = 47
      · rw [if_pos h47]
        have : n = 63 := hd.2.mp (by rw [← h1, h47]; rfl)
        subst this; rfl
      · rw [if_neg h47]
        have n63 : n ≠ 63 := fun e => h47 (by
          have : ((c.toNat : Nat) : Int) = 47 := h1.trans (hd.2.mpr e)
          apply UInt8.toNat.inj; show c.toNat = 47; omega)
        by_cases h43 : c = 43
        · rw [if_pos h43]
          have : n = 62 := hd.1.mp (by rw [← h1, h43]; rfl)
          subst this; rfl
        · rw [if_neg h43]
          have n62 : n ≠ 62 := fun e => h43 (by
            have : ((c.toNat : Nat) : Int) = 43 := h1.trans (hd.1.mpr e)
            apply UInt8.toNat.inj; show c.toNat = 43; omega)
          rw [if_neg (by omega), if_neg (by omega)]
          exact h1
end Mine
end
section
open PySem PySem.W PyProof.Rows PySem.Calls
namespace Mine
set_option maxRecDepth 100000

theorem lines1_B64e : True := by
  w_top off
  k_with_none
  k_with "eval Constant int" => ((with_reducible refine const_c ?_; intro _ _; (try dsimp only)))
  k_with "binaryOp Add int int" => ((with_reducible refine add_c ?_; intro _ _; (try dsimp only)))
  k_with "binaryOp Sub int int" => ((with_reducible refine sub_c ?_; intro _ _; (try dsimp only)))
  k_with "binaryOp BitAnd int int" => ((with_reducible refine and_c ?_; intro _ _; (try dsimp only)))
  k_with "binaryOp BitOr int int" => ((with_reducible refine or_c ?_; intro _ _; (try dsimp only)))
  k_with "binaryOp BitXor int int" => ((with_reducible refine xor_c ?_; intro _ _; (try dsimp only)))
  k_with "binaryOp Mod int int" => ((with_reducible refine mod_c (by decide) ?_; intro _ _; (try dsimp only)))
  k_with "binaryOp FloorDiv int int" => ((with_reducible refine div_c (by decide) (by decide) ?_; intro _ _; (try dsimp only)))
  k_with "binaryOp Mult int int" => ((with_reducible refine mul_c (by constructor <;> omega) (by constructor <;> omega) ?_; intro _ _; (try dsimp only)))
  k_with "binaryOp LShift int int" => ((with_reducible refine shl_c (by constructor <;> omega) (by constructor <;> omega) ?_; intro _ _; (try dsimp only)))
  k_with "binaryOp RShift int int" => ((with_reducible refine shr_c (by omega) ?_; intro _ _; (try dsimp only)))
  k_with "binaryOp Pow int int" => ((with_reducible refine pow_c (by constructor <;> omega) (by constructor <;> omega) ?_; intro _ _; (try dsimp only)))
  k_with "call ref" => ((k_here; (with_reducible show wpAny _ _ (call (Value.ref 57) [Value.bytes _ _] _) _ _ _); k_dflt (refine' Fn.use (b2a_spec _ _ _ _ _ (by with_reducible assumption) _) ?k1_kw ?k2_kw ?k3_kw ?k4_kw ?k5_kw ?k6_kw ?k7_kw ?k8_kw ?k9_kw ?_; (case k1_kw => k_asm); (case k2_kw => k_asm); (case k3_kw => k_asm); (case k4_kw => k_asm); (case k5_kw => k_asm); (case k6_kw => exact rfl); (case k7_kw => exact rfl); (case k8_kw => omega); (case k9_kw => omega)); intro _ _ _ _ _ _ hP'; obtain ⟨_, _, e', _⟩ := hP'; subst e'; (try dsimp only); (try k_fold)))
  trivial
theorem four_map {r : Array UInt8} {a b c d : Int} (h : KBw.bInts r = [dig a, dig b, dig c, dig d]) : KBw.bInts r = [a, b, c, d].map dig := h
section
variable {prog : Program} {w : World} {A : Around} {E : Value → Shared → Prop} {h : Heap} {g : Array GenState} {d : Drawn} {tk : Nat} {o : OsState} {a b : Array UInt8} {t u : Tok}
theorem get_translate_c {pl : Sem Bool} {Q : Value × List Value → Shared → Prop} (H : Q (.builtin "bytes.translate", [.bytes b t]) ⟨h, g, d, tk, o⟩) : wpAny (model prog w) A (getMethod (.bytes b t) (Str.ofString "translate") pl) Q E ⟨h, g, d, tk, o⟩ := get_translate H
theorem get_maketrans_c {pl : Sem Bool} {K : Frag} {h₀ : Heap} {L : Addr} {m : Str → Option Value} {Q : Value × List Value → Shared → Prop} (F : Fr h₀ L h m) (X₀ : K.In h₀)
    (H : ∀ k', Q (.builtin "bytes.maketrans", []) ⟨h, g, d, k', o⟩) : wpAny (model prog w) A (getMethod (.type "bytes") (Str.ofString "maketrans") pl) Q E ⟨h, g, d, tk, o⟩ := get_maketrans (s := ⟨h, g, d, tk, o⟩) F X₀ H
theorem call_maketrans_c {Q : Value → Shared → Prop} {p q : UInt8} (H : ∀ t' k', Q (.bytes (transT #[43, 47] #[p, q]) t') ⟨h, g, d, k', o⟩) :
    wpAny (model prog w) A (call (.builtin "bytes.maketrans") [.bytes #[43, 47] t, .bytes #[p, q] u]) Q E ⟨h, g, d, tk, o⟩ := call_maketrans rfl H
theorem call_translate_c {Q : Value → Shared → Prop} {p q : UInt8} {x y z v : Int} (hb : KBw.bInts b = [dig x, dig y, dig z, dig v]) (hx : (0 ≤ x ∧ x < 64) ∧ (0 ≤ y ∧ y < 64) ∧ (0 ≤ z ∧ z < 64) ∧ (0 ≤ v ∧ v < 64))
    (H : ∀ r t' k', KBw.bInts r = [sg p.toNat q.toNat x, sg p.toNat q.toNat y, sg p.toNat q.toNat z, sg p.toNat q.toNat v] → Q (.bytes r t') ⟨h, g, d, k', o⟩) :
    wpAny (model prog w) A (call (.builtin "bytes.translate") [.bytes b t, .bytes (transT #[43, 47] #[p, q]) u]) Q E ⟨h, g, d, tk, o⟩ := by
  refine call_translate (transT_size _ _) ?_ fun t' k' => H _ t' k' (trans_ints p q (four_map hb) ?_)
  · rw [← KBw.ints_length, hb]; show 4 ≤ 16777216; decide
  · intro i hi
    simp only [List.mem_cons, List.not_mem_nil, or_false] at hi
    rcases hi with rfl | rfl | rfl | rfl
    · exact hx.1
    · exact hx.2.1
    · exact hx.2.2.1
    · exact hx.2.2.2
end
theorem b3_in {b : Array UInt8} {x y z : Int} (hb : KBw.bInts b = [x, y, z]) : (0 ≤ x / 4 ∧ x / 4 < 64) ∧ (0 ≤ x % 4 * 16 + y / 16 ∧ x % 4 * 16 + y / 16 < 64) ∧ (0 ≤ y % 16 * 4 + z / 64 ∧ y % 16 * 4 + z / 64 < 64) ∧ (0 ≤ z % 64 ∧ z % 64 < 64) := by
  have bx := KBw.ints_in (b := b) (k := x) (by rw [hb]; simp)
  have by' := KBw.ints_in (b := b) (k := y) (by rw [hb]; simp)
  have bz := KBw.ints_in (b := b) (k := z) (by rw [hb]; simp)
  omega
theorem lines2_B64e : True := by
  k_with "getMethod bytes" => ((k_here; k_dflt (refine get_translate_c ?_); (try dsimp only)))
  k_with "getMethod" => ((k_here; (with_reducible show wpAny _ _ (getMethod (Value.bytes _ _) _ _) _ _ _); k_dflt (refine get_translate_c ?_); (try dsimp only)))
  k_with "getMethod type:bytes" => ((k_here; (with_reducible show wpAny _ _ (getMethod (Value.type _) _ _) _ _ _); k_dflt (refine' get_maketrans_c ?k1_kw ?k2_kw ?_; (case k1_kw => k_asm); (case k2_kw => k_asm)); intro _; (try dsimp only)))
  k_with "call builtin:bytes.maketrans" => ((k_here; k_dflt (refine call_maketrans_c ?_); intro _ _; (try dsimp only)))
  k_with "call builtin:bytes.translate" => ((k_here; k_dflt (refine call_translate_c (by with_reducible assumption) (b3_in (by with_reducible assumption)) ?_); intro _ _ _ _; (try dsimp only)))
  trivial
set_option maxRecDepth 100000 in
set_option maxHeartbeats 8000000 in
theorem b64_spec (w : World) (b : Array UInt8) (x y z : Int) (c e : UInt8) (hb : KBw.bInts b = [x, y, z]) (t u : Tok) : Fn w 65 5 [.bytes b t, .bytes #[c, e] u] [] (fun _ v _ => ∃ r t, v = .bytes r t ∧
      KBw.bInts r = [sg c.toNat e.toNat (x / 4), sg c.toNat e.toNat (x % 4 * 16 + y / 16), sg c.toNat e.toNat (y % 16 * 4 + z / 64), sg c.toNat e.toNat (z % 64)]) := by
  unfold Fn
  k_fill
  intro p loose mean mg mb base outer dp un gd s Q E B X T hd hu hret
  refine wpAny_call ?_
  k_dflt (refine' enter0 (binds := [(Str.ofString "s", .bytes b t), (Str.ofString "altchars", .bytes #[c, e] u)]) ?k1 ?k3 ?k5 ?k6 ?k7 ?k8 ?k9 ?kB ?_ ?c2 ?c3 ?c4 ?c5; (case k1 => exact B); (case k3 => exact X); (case k5 => exact T); (case k6 => k_is); (case k7 => k_is); (case k8 => ktr_room); (case k9 => exact BindsTo.of_defaults (T := 58) rfl (X _ _ (by k_is)) rfl rfl rfl); (case c5 => decide); (case kB => exact locs rfl); (case c2 => exact rfl); (case c3 => exact rfl); (case c4 => exact rfl); k_whole; intro L' h' F' N'; (try dsimp only [List.reverse_cons, List.reverse_nil, List.nil_append, List.cons_append] at F'); (try dsimp only); (try k_fold))
  k_steps
  all_goals first
    | (exfalso; exact absurd rfl (by assumption))
    | (refine' hret _ _ _ (Fr.keep ?F) ⟨_, _, rfl, ?P⟩; (case F => assumption); (case P => assumption))
    | trace_state
end Mine
end
section
open PySem PySem.W PyProof.Rows PySem.Calls
namespace Mine
/-- what an evaluation leaves: nothing that stood is changed -/
inductive Left {α : Type} (s : Shared) (R : α → Heap → Prop) (v : α) (s' : Shared) : Prop
  | mk (h' : Heap) (tk' : Nat) : s' = { s with heap := h', toks := tk' } → Keeps s.heap h' → R v h' → Left s R v s'
theorem Left.intro {s : Shared} {R : α → Heap → Prop} {v : α} {h' : Heap} {tk' : Nat} (k : Keeps s.heap h') (r : R v h') : Left s R v { s with heap := h', toks := tk' } := ⟨h', tk', rfl, k, r⟩
section
variable {prog : Program} {w : World} {A : Around} {E : Value → Shared → Prop} {s : Shared} {h₀ : Heap} {L : Addr} {m : Str → Option Value} {env : Env} {ct elt iter : Expr} {x : Str} {px : Pos} {scope : Scope} {cl : List (Str × Addr)} {pos : Pos} {S : List (Addr × Obj) → Prop} {P : Nat → Value → Prop}
  {Fin : List Value → List (Addr × Obj) → Prop} {news : List (Addr × Obj)} {Q : Value → Shared → Prop}
open LCg LCt

theorem rest_all {n : Nat} (Rl : Nat → Value → Prop) (hS : S news)
    (turn : ∀ i v I oI C oC D m₂ ys h tk (E' : Value → Shared → Prop), i < n → P i v → NsObj oC m₂ → m₂ x = some v → Fr h₀ L h m → News h₀ L h ((I, oI) :: (C, oC) :: (D, lst ys) :: news) → Off3 I C D news → ((@Ne Nat I C) ∧ (@Ne Nat I D) ∧ (@Ne Nat C D)) →
      wpAny (model prog w) A (eval elt (compEnvC scope cl C env)) (Left { s with heap := h, toks := tk } fun y _ => Rl i y) E' { s with heap := h, toks := tk })
    (fin : ∀ ys : List Value, ys.length = n → (∀ i y, ys[i]? = some y → Rl i y) → Fin ys news) : CompRest prog w A h₀ L m env elt x scope cl s S P Fin n 0 [] news := by
  have key : ∀ (j i : Nat) (ys : List Value), i + j = n → ys.length = i → (∀ i y, ys[i]? = some y → Rl i y) → CompRest prog w A h₀ L m env elt x scope cl s S P Fin j i ys news := by
    intro j
    induction j with
    | zero => intro i ys hi hl hy; exact CompRest.zero (fin ys (by omega) hy)
    | succ j ih =>
      intro i ys hi hl hy
      refine CompRest.succ ?_
      intro v I oI C oC D m₂ h tk E' hv hC hx F N off ne
      refine wpAny_mono (turn i v I oI C oC D m₂ ys h tk E' (by omega) hv hC hx F N off ne) (fun y s₂ hq => ?_) fun _ _ e => e
      obtain ⟨h', tk', e, k, r⟩ := hq
      refine ⟨h', tk', news, e, fr_keeps F k, news_keeps N k, off, hS, ih (i + 1) (ys ++ [y]) (by omega) (by simp [hl]) ?_⟩
      intro i' y' hy'
      rw [List.getElem?_append] at hy'
      split at hy'
      · exact hy i' y' hy'
      · rename_i hge
        have : i' = i := by
          have := (List.getElem?_eq_some_iff.mp hy').1
          simp at this; omega
        subst this
        rw [hl, Nat.sub_self] at hy'
        cases hy'
        exact r
  exact key n 0 [] (by omega) rfl (by intro i y h; simp at h)

theorem rest_allT {n : Nat} (Tb : Nat → Bool) (Rl : Nat → Value → Prop) (hS : S news)
    (turn : ∀ i v I oI C oC D m₂ ys h tk (E' : Value → Shared → Prop), i < n → P i v → NsObj oC m₂ → m₂ x = some v → Fr h₀ L h m → News h₀ L h ((I, oI) :: (C, oC) :: (D, lst ys) :: news) → Off3 I C D news → ((@Ne Nat I C) ∧ (@Ne Nat I D) ∧ (@Ne Nat C D)) →
      wpAny (model prog w) A (isTrue ct (compEnvC scope cl C env) (eval ct (compEnvC scope cl C env))) (Left { s with heap := h, toks := tk } fun b _ => b = Tb i) E' { s with heap := h, toks := tk })
    (elts : ∀ i v I oI C oC D m₂ ys h tk (E' : Value → Shared → Prop), i < n → Tb i = true → P i v → NsObj oC m₂ → m₂ x = some v → Fr h₀ L h m → News h₀ L h ((I, oI) :: (C, oC) :: (D, lst ys) :: news) → Off3 I C D news → ((@Ne Nat I C) ∧ (@Ne Nat I D) ∧ (@Ne Nat C D)) →
      wpAny (model prog w) A (eval elt (compEnvC scope cl C env)) (Left { s with heap := h, toks := tk } fun y _ => Rl i y) E' { s with heap := h, toks := tk })
    (fin : ∀ ys : List Value, (∃ is : List Nat, is = (List.range n).filter Tb ∧ ys.length = is.length ∧ ∀ (k i : Nat) (y : Value), is[k]? = some i → ys[k]? = some y → Rl i y) → Fin ys news) : CompRestT prog w A h₀ L m env ct elt x scope cl s S P Fin n 0 [] news := by
  have key : ∀ (j i : Nat) (ys : List Value), i + j = n → (ys.length = ((List.range i).filter Tb).length ∧ ∀ (k i' : Nat) (y : Value), ((List.range i).filter Tb)[k]? = some i' → ys[k]? = some y → Rl i' y) → CompRestT prog w A h₀ L m env ct elt x scope cl s S P Fin j i ys news := by
    intro j
    induction j with
    | zero =>
      intro i ys hi hy
      have : i = n := by omega
      subst this
      exact CompRestT.zero (fin ys ⟨_, rfl, hy⟩)
    | succ j ih =>
      intro i ys hi hy
      refine CompRestT.succ ?_
      intro v I oI C oC D m₂ h tk E' hv hC hx F N off ne
      refine wpAny_mono (turn i v I oI C oC D m₂ ys h tk E' (by omega) hv hC hx F N off ne) (fun b s₂ hq => ?_) fun _ _ e => e
      obtain ⟨h', tk', e, k, rb⟩ := hq
      subst e
      cases hb : b with
      | true =>
        rw [if_pos rfl]
        have ht : Tb i = true := by rw [← rb, hb]
        refine wpAny_mono (elts i v I oI C oC D m₂ ys h' tk' E' (by omega) ht hv hC hx (fr_keeps F k) (news_keeps N k) off ne) (fun y s₃ hq => ?_) fun _ _ e => e
        obtain ⟨h'', tk'', e, k', r⟩ := hq
        refine ⟨h'', tk'', news, e, fr_keeps (fr_keeps F k) k', news_keeps (news_keeps N k) k', off, hS, ih (i + 1) (ys ++ [y]) (by omega) ?_⟩
        have er : (List.range (i + 1)).filter Tb = (List.range i).filter Tb ++ [i] := by rw [List.range_succ, List.filter_append]; simp [ht]
        rw [er]
        refine ⟨by simp [hy.1], fun k₁ i' y' h1 h2 => ?_⟩
        rw [List.getElem?_append] at h1 h2
        rw [hy.1] at h2
        split at h1
        · rename_i hlt; rw [if_pos hlt] at h2; exact hy.2 k₁ i' y' h1 h2
        · rename_i hge
          rw [if_neg hge] at h2
          have h0 : k₁ - ((List.range i).filter Tb).length = 0 := by
            have := (List.getElem?_eq_some_iff.mp h1).1
            simp at this; omega
          rw [h0] at h1 h2
          cases h1; cases h2
          exact r
      | false =>
        rw [if_neg Bool.false_ne_true]
        have ht : Tb i = false := by rw [← rb, hb]
        refine ⟨h', tk', news, rfl, fr_keeps F k, news_keeps N k, off, hS, ih (i + 1) ys (by omega) ?_⟩
        have er : (List.range (i + 1)).filter Tb = (List.range i).filter Tb := by rw [List.range_succ, List.filter_append]; simp [ht]
        rw [er]
        exact hy
  exact key n 0 [] (by omega) (by simp)

theorem ListComp_B (F₀ : Fr h₀ L s.heap m)
    (hclos : closureFor scope env = pure cl) (hcell : ∀ y ∈ scope.names, y.2 ≠ .cell) (hkind : scope.kind = .function)
    (hnames : ∀ y ∈ scope.names, y.2 = .local → scope.names.lookup y.1 = some .local) (hx : scope.names.lookup x = some .local)
    (h : wpAny (model prog w) A (eval iter env) (fun xv s₁ => ∃ b t news, xv = .bytes b t ∧ A.handled = none ∧ Fr h₀ L s₁.heap m ∧ News h₀ L s₁.heap news ∧ b.size ≤ sizeLine ∧
      ∀ s₂ : Shared, (∃ h, s₂ = { s₁ with heap := h }) → CompRest prog w A h₀ L m env elt x scope cl s₂ (fun _ => True) (fun i v => ∃ c u, b[i]? = some c ∧ v = .int (c.toNat : Int) u) (FinE h₀ L m s₂ Q) b.size 0 [] news) E s)
    (hs : ∀ x, foldedSetIterable iter env x = pure x := by intro _; rfl) :
    wpAny (model prog w) A (eval (.ListComp elt [⟨.Name x px, iter, [], 0⟩] scope pos) env) Q E s := by
  rw [eval_ListComp]
  refine wpAny_comprehension_free (use := none) rfl hs hclos hkind hnames (wpAny_mono h (fun xv s₁ h₁ => ?_) fun _ _ e => e)
  obtain ⟨b, t, news, rfl, hh, F, N, hsz, R⟩ := h₁
  refine KBw.pyIter_bytes ?_
  refine block_U (KBw.walks hh s₁.heap.objs.size b t) hsz (fun i h st => by obtain ⟨o, e, _⟩ := st; exact ⟨o, e⟩) (fun i h h' o nw st e e' _ _ _ => by obtain ⟨o', q, r⟩ := st; rw [e] at q; cases q; exact ⟨o, e', r⟩) hcell hkind hx ⟨_, Heap.get?_push_size _ rfl, rfl, rfl⟩ (fun b hb => ?_)
    (F.keeps fun _ _ e => Heap.get?_push_of_some _ e) (N.grown fun _ _ e => Heap.get?_push_of_some _ e) (Nat.ne_of_lt F.ns.lt) (next_is_new F) (fun p hp => Nat.ne_of_lt (Heap.lt_size (N p hp).1)) trivial (R _ ⟨_, rfl⟩) ?_
  · rw [List.mem_singleton.mp hb]
    show s₁.heap.objs.size < (s₁.heap.push _).objs.size
    rw [Heap.size_push]; exact Nat.lt_succ_self _
  · intro D C h tk m' ys news' F' N' o1 hn hC₀ hD₀ hCL hDL hCD offC fin
    refine ⟨m', hn, fun h'' hs'' => fin D h'' tk (F'.change hs'' hCL hC₀) (fun p hp => ?_) o1⟩
    refine ⟨hs''.extBut _ _ ?_ (N' p hp).1, (N' p hp).2⟩
    rcases List.mem_cons.mp hp with rfl | hp
    · exact Ne.symm hCD
    · exact offC p hp
end
end Mine
end
section
open PySem PySem.W PyProof.Rows PySem.Calls
namespace Mine
/-- a goal laid aside: the walk stops here -/
noncomputable def Hold (P : Prop) : Prop := P
theorem hold {P : Prop} (h : Hold P) : P := h
section
variable {prog : Program} {w : World} {A : Around} {E : Value → Shared → Prop} {h : Heap} {g : Array GenState} {d : Drawn} {tk : Nat} {o : OsState} {h₀ : Heap} {m : Str → Option Value} {env : Env} {ct elt iter : Expr} {x : Str} {px : Pos} {scope : Scope} {cl : List (Str × Addr)} {pos : Pos} {news : List (Addr × Obj)} {Q : Value → Shared → Prop}
open LCg LCt
theorem ints_at {b : Array UInt8} {i : Nat} {c : UInt8} (h : b[i]? = some c) : (KBw.bInts b)[i]? = some (c.toNat : Int) := by
  unfold KBw.bInts
  rw [List.getElem?_map, Array.getElem?_toList, h]
  rfl
/-- a list built over a bytes that a local name holds -/
theorem comp_bytes {nm : Str} {pn : Pos} {b : Array UInt8} {t : Tok} {ns : List Int} (Rl : Nat → Value → Prop) (hh : A.handled = none) (F : Fr h₀ env.locals h m) (N : News h₀ env.locals h news) (hb : KBw.bInts b = ns) (hsz : ns.length ≤ 64)
    (hnm : env.kindOf nm = some .local) (hk : env.scope.kind = .function) (hnd : (nm == ("__debug__" : Str)) = false) (hm : m nm = some (.bytes b t))
    (hclos : closureFor scope env = pure cl) (hcell : ∀ y ∈ scope.names, y.2 ≠ .cell) (hkind : scope.kind = .function)
    (hnames : ∀ y ∈ scope.names, y.2 = .local → scope.names.lookup y.1 = some .local) (hx : scope.names.lookup x = some .local)
    (turn : ∀ (i : Nat) (c : Int) u I oI C oC D m₂ ys h tk (E' : Value → Shared → Prop), ns[i]? = some c → NsObj oC m₂ → m₂ x = some (.int c u) → Fr h₀ env.locals h m → News h₀ env.locals h ((I, oI) :: (C, oC) :: (D, lst ys) :: news) →
      wpAny (model prog w) A (eval elt (compEnvC scope cl C env)) (Left ⟨h, g, d, tk, o⟩ fun y _ => Rl i y) E' ⟨h, g, d, tk, o⟩)
    (fin : ∀ (ys : List Value) D h' tk', ys.length = ns.length → (∀ i y, ys[i]? = some y → Rl i y) → Fr h₀ env.locals h' m → News h₀ env.locals h' ((D, lst ys) :: news) → Q (.ref D) ⟨h', g, d, tk', o⟩)
    (hs : ∀ x, foldedSetIterable (.Name nm pn) env x = pure x := by intro _; rfl) :
    wpAny (model prog w) A (eval (.ListComp elt [⟨.Name x px, .Name nm pn, [], 0⟩] scope pos) env) Q E ⟨h, g, d, tk, o⟩ := by
  have hbs : b.size = ns.length := by rw [← hb]; exact (KBw.ints_length b).symm
  refine ListComp_B F hclos hcell hkind hnames hx (wpAny_Name (wpAny_loadName_local hk hnm F.ns hm ?_) hnd) hs
  refine ⟨b, t, news, rfl, hh, F, N, by rw [hbs, sizeLine_eq]; omega, ?_⟩
  rintro s₂ ⟨h₂, rfl⟩
  refine rest_all Rl trivial ?_ ?_
  · rintro i v I oI C oC D m₂ ys h' tk' E' hi ⟨c, u, hc, rfl⟩ hC hx' F' N' _ _
    exact turn i _ u I oI C oC D m₂ ys h' tk' E' (by rw [← hb]; exact ints_at hc) hC hx' F' N'
  · intro ys hl hr D h' tk' F' N' _
    exact fin ys D h' tk' (by rw [hl, hbs]) hr F' N'
end
end Mine
end
section
open PySem PySem.W PyProof.Rows PySem.Calls
namespace Mine
section
variable {prog : Program} {w : World} {A : Around} {E : Value → Shared → Prop} {s : Shared}
theorem nextOf_tuple {it t : Addr} {i : Nat} {items : Array Value} {x : Value} {Q : Value → Shared → Prop} (hit : s.heap.IsTupleIter it t i) (ht : s.heap.IsTuple t items) (hx : items[i]? = some x)
    (hQ : ∀ h', h'.IsTupleIter it t (i + 1) → Heap.SameBut it s.heap h' → Q x { s with heap := h' }) : wpAny (model prog w) A (Builtin.SmallTypes.nextOf (.ref it)) Q E s := by
  obtain ⟨o, ho, hc, hd⟩ := id hit
  obtain ⟨ol, hol, _, nl, hdl⟩ := ht
  unfold Builtin.SmallTypes.nextOf
  refine wpAny_bind (wpAny_callSpecial?_slot (name := Str.ofString "__next__") hit.typeIs F.slot_tuple_iterator_next
    (wpAny_call_entry F.slot_tuple_iterator_next hit.typeIs F.entry_tuple_iterator_next ?_ (F.args_tuple_iterator_next_1 _)))
  show wpAny _ _ (field (.ref it) 0 >>= _) _ _ s
  refine wpAny_bind (wpAny_field ho hd (x := .ref t) rfl ?_)
  show wpAny _ _ (if (Value.ref t == Value.none) = true then _ else _) _ _ s
  rw [if_neg (show ¬ ((Value.ref t == Value.none) = true) from Bool.false_ne_true)]
  show wpAny _ _ (field (.ref it) 1 >>= _) _ _ s
  refine wpAny_bind (wpAny_field ho hd (x := .int i 0) rfl ?_)
  show wpAny _ _ (seqItems? (.ref t) >>= _) _ _ s
  refine wpAny_bind (wpAny_seqItems hol hdl ?_)
  simp only [Int.toNat_natCast, hx]
  refine wpAny_bind (wpAny_setField ho hd (by simp) (wpAny_pure ⟨x, rfl, wpAny_pure (hQ _ ?_ (Heap.SameBut.update ..))⟩))
  exact ⟨_, Heap.get?_update_self _ ho (Obj.isFreed_of_fields (Obj.data_mapFields hd _)), (Obj.cls_mapFields ..).trans hc, by
    rw [Obj.data_mapFields hd]; simp [rawInt]⟩
theorem nextOf_tuple_end {it t : Addr} {i : Nat} {items : Array Value} {Q : Value → Shared → Prop} (hh : A.handled = none) (hit : s.heap.IsTupleIter it t i) (ht : s.heap.IsTuple t items) (hx : items[i]? = none)
    (hE : ∀ h' e, Heap.ExtBut it s.heap h' → (∃ o, h'.get? e = some o ∧ o.cls = .type "StopIteration") → E (.ref e) { s with heap := h' }) :
    wpAny (model prog w) A (Builtin.SmallTypes.nextOf (.ref it)) Q E s := by
  obtain ⟨o, ho, hc, hd⟩ := id hit
  obtain ⟨ol, hol, _, nl, hdl⟩ := ht
  unfold Builtin.SmallTypes.nextOf
  refine wpAny_bind (wpAny_callSpecial?_slot (name := Str.ofString "__next__") hit.typeIs F.slot_tuple_iterator_next
    (wpAny_call_entry F.slot_tuple_iterator_next hit.typeIs F.entry_tuple_iterator_next ?_ (F.args_tuple_iterator_next_1 _)))
  show wpAny _ _ (field (.ref it) 0 >>= _) _ _ s
  refine wpAny_bind (wpAny_field ho hd (x := .ref t) rfl ?_)
  show wpAny _ _ (if (Value.ref t == Value.none) = true then _ else _) _ _ s
  rw [if_neg (show ¬ ((Value.ref t == Value.none) = true) from Bool.false_ne_true)]
  show wpAny _ _ (field (.ref it) 1 >>= _) _ _ s
  refine wpAny_bind (wpAny_field ho hd (x := .int i 0) rfl ?_)
  show wpAny _ _ (seqItems? (.ref t) >>= _) _ _ s
  refine wpAny_bind (wpAny_seqItems hol hdl ?_)
  simp only [Int.toNat_natCast, hx]
  refine wpAny_bind (wpAny_rule (wpAny_bind (wpAny_setField ho hd (by simp) ?_)))
  show wpAny _ _ (newExc (.type "StopIteration") [] >>= _) _ _ _
  refine wpAny_bind ?_
  simp only [newExc, newTuple]
  refine wpAny_bind (wpAny_newObj_type ?_ (by size_fits))
  refine wpAny_bind (m := firstArgMember _ _) (wpAny_of_eq (a := Value.none) (by first | rfl | (simp only [firstArgMember]; rfl)) ?_)
  refine wpAny_newObj_type ?_ (by size_fits)
  simp only [raiseNew]
  refine wpAny_bind (wpAny_handled ?_)
  first | rw [show A.in1.handled = none from hh] | rw [hh]
  refine wpAny_bind (wpAny_pure (wpAny_throw ?_))
  exact hE _ _ (((Heap.SameBut.update ..).extBut.push _).push _) ⟨_, Heap.get?_push_size _ rfl, rfl⟩
end
theorem draws_tuple {prog : Program} {w : World} {A : Around} (hh : A.handled = none) (it l : Addr) (hne : l ≠ it) (items : Array Value) :
    Draws prog w A it [it, l] items.size (fun i v => items[i]? = some v) (fun i h => h.IsTupleIter it l i ∧ h.IsTuple l items) where
  live := fun _ _ st => let ⟨o, ho, _⟩ := st.1; ⟨o, ho⟩
  frame := fun _ _ _ st hk => ⟨let ⟨o, ho, r⟩ := st.1; ⟨o, hk it (by simp) o ho, r⟩, let ⟨o, ho, r⟩ := st.2; ⟨o, hk l (by simp) o ho, r⟩⟩
  item := fun i s Q E hi st hQ => by
    refine nextOf_tuple st.1 st.2 (x := items[i]) (by simp [hi]) fun h' hit' hs' => ?_
    exact hQ _ h' s.toks (by simp [hi]) ⟨hit', st.2.extBut hs'.extBut hne⟩ hs'
  done := fun s Q E st hE => nextOf_tuple_end hh st.1 st.2 (by simp) hE
section
variable {prog : Program} {w : World} {A : Around} {E : Value → Shared → Prop} {s : Shared}
open AutoSeq1 (wpAny_loadPart')
set_option maxRecDepth 100000 in
set_option maxHeartbeats 1000000 in
theorem meets_enum_tup (l : Addr) (items : Array Value) (n : Nat) (dct : Option Addr) (sl : Array (Option Value)) :
    Meets (Builtin.«enumerate.__new__» ⟨[.type "enumerate", .ref l], []⟩) (fun _ R s => s.heap.get? l = some { cls := .type "tuple", dict := dct, data := .seq items n, slots := sl } ∧
      R (.ok (.ret (.ref (s.heap.push { cls := .type "tuple_iterator", data := .fields #[.ref l, .int 0 0] }).objs.size)))
        { s with heap := (s.heap.push { cls := .type "tuple_iterator", data := .fields #[.ref l, .int 0 0] }).push { cls := .type "enumerate", data := .fields #[.none, .bool false, .ref s.heap.objs.size, rawInt 0, .none, .none] } }) :=
  .of_wp fun prog w A R s h => by
    obtain ⟨hp, g, d, tk, os⟩ := s; obtain ⟨hl, h⟩ := h
    have hsub := sub_enumerate
    have hL : Heap.IsTuple (Shared.heap ⟨hp, g, d, tk, os⟩) l items := ⟨_, hl, rfl, n, rfl⟩
    wp_walk using wpAny_loadPart' hl
    refine wpAny_stack_any fun st => wpAny_pure ?_
    split
    · rename_i c _ _ _ _ _
      cases (c == Value.type "enumerate")
      · wp_walk using wpAny_loadPart' hl, wpAny_pyIter_tuple hL
        exact ⟨_, rfl, h⟩
      · wp_walk using wpAny_loadPart' hl, wpAny_pyIter_tuple hL
        exact ⟨_, rfl, h⟩
    · wp_walk using wpAny_loadPart' hl, wpAny_pyIter_tuple hL
      exact ⟨_, rfl, h⟩
theorem call_enum_tup {l : Addr} {items : Array Value} {Q : Value → Shared → Prop} (hL : s.heap.IsTuple l items)
    (h : ∀ h', IsEnum h' (s.heap.objs.size + 1) s.heap.objs.size 0 .none → h'.IsTupleIter s.heap.objs.size l 0 → h'.objs.size = s.heap.objs.size + 2 →
      (∀ b o, s.heap.get? b = some o → h'.get? b = some o) → Q (.ref (s.heap.objs.size + 1)) { s with heap := h' }) :
    wpAny (model prog w) A (call (.type "enumerate") [.ref l]) Q E s := by
  obtain ⟨⟨c, dct, dt, sl⟩, hl, hc, n, hd⟩ := hL
  replace hc : c = .type "tuple" := hc
  replace hd : dt = .seq items n := hd
  subst hc hd
  refine callType_new F.called_enumerate (by decide) (F.typeCall_enumerate_1 _) (F.newCall_enumerate_1 _) (fun obj => F.args_object_init_2 obj _) F.entry_enumerate_new
    (meets_enum_tup l items n dct sl) ⟨hl, ?_⟩
  have hz : (s.heap.push { cls := .type "tuple_iterator", data := .fields #[.ref l, .int 0 0] }).objs.size = s.heap.objs.size + 1 := Heap.size_push ..
  show _ ∧ _
  rw [hz]
  have he : IsEnum ((s.heap.push { cls := .type "tuple_iterator", data := .fields #[.ref l, .int 0 0] }).push
      { cls := .type "enumerate", data := .fields #[.none, .bool false, .ref s.heap.objs.size, rawInt 0, .none, .none] }) (s.heap.objs.size + 1) s.heap.objs.size 0 .none := by
    have := Heap.get?_push_size (s.heap.push { cls := .type "tuple_iterator", data := .fields #[.ref l, .int 0 0] })
      (o := { cls := .type "enumerate", data := .fields #[.none, .bool false, .ref s.heap.objs.size, rawInt 0, .none, .none] }) rfl
    rw [hz] at this; exact this
  refine ⟨⟨_, he, rfl⟩, h _ he ⟨_, Heap.get?_push_of_some _ (Heap.get?_push_size _ rfl), rfl, rfl⟩ (by rw [Heap.size_push, hz]) fun b o x => Heap.get?_push_of_some _ (Heap.get?_push_of_some _ x)⟩
noncomputable def kVal : ItemKind Value := ⟨fun a v => v = a, fun v => some v, fun _ _ h => by rw [h]⟩
theorem enum_src {l : Addr} {vs : List Value} {Q : Value → Shared → Prop} {h₀ : Heap} {L : Addr} {m : Str → Option Value} {news : List (Addr × Obj)} (hh : A.handled = none) (hl : h₀.IsTuple l vs.toArray)
    (F : Fr h₀ L s.heap m) (N : News h₀ L s.heap news)
    (h : ∀ h' e, Fr h₀ L h' m → News h₀ L h' news → PairSrcL prog w A E h₀ L kVal vs (.ref e) { s with heap := h' } m news → Q (.ref e) { s with heap := h' }) :
    wpAny (model prog w) A (call (.type "enumerate") [.ref l]) Q E s := by
  obtain ⟨ol, hol, hcl⟩ := id hl
  have hls : s.heap.IsTuple l vs.toArray := ⟨ol, F.keep _ _ hol, hcl⟩
  have hlt : l < h₀.objs.size := Heap.lt_size hol
  have hLs : L < s.heap.objs.size := F.ns.lt
  have hab : h₀.objs.size ≤ L := F.above
  refine call_enum_tup hls fun h' he hit hsz hk => ?_
  have F' : Fr h₀ L h' m := ⟨F.ns.keeps hk, fun b o e => hk b o (F.keep b o e), F.above⟩
  have N' : News h₀ L h' news := fun p hp => ⟨hk _ _ (N p hp).1, (N p hp).2⟩
  refine h h' _ F' N' fun env hL => ?_
  subst hL
  have hl2 : l < s.heap.objs.size := Nat.lt_trans (Nat.lt_of_lt_of_le hlt hab) hLs
  refine enumSrc (draws_tuple (A := A.in1) hh s.heap.objs.size l (Nat.ne_of_lt hl2) vs.toArray) he ⟨hit, ⟨ol, hk _ _ (F.keep _ _ hol), hcl⟩⟩ (Nat.succ_ne_self _) ?_ (by simp) ?_
    (Heap.get?_none_of_le (Nat.le_trans hab (Nat.le_of_lt (Nat.lt_succ_of_lt hLs)))) (Heap.get?_none_of_le (Nat.le_trans hab (Nat.le_of_lt hLs))) ?_ (by simp) (fun i x hx => ⟨x, by simpa using hx, rfl⟩) F' N'
  · intro hm
    rcases List.mem_cons.mp hm with e | hm
    · exact Nat.succ_ne_self _ e
    · exact Nat.ne_of_gt (Nat.lt_succ_of_lt hl2) (List.mem_singleton.mp hm)
  · intro hm
    rcases List.mem_cons.mp hm with e | hm
    · exact Nat.ne_of_lt (Nat.lt_succ_of_lt hLs) e
    · rcases List.mem_cons.mp hm with e | hm
      · exact Nat.ne_of_lt hLs e
      · exact Nat.ne_of_gt (Nat.lt_of_lt_of_le hlt hab) (List.mem_singleton.mp hm)
  · intro b hb q hq e
    have hq1 : q.1 < s.heap.objs.size := Heap.lt_size (N q hq).1
    rcases List.mem_cons.mp hb with e1 | hb
    · exact Nat.ne_of_gt (Nat.lt_succ_of_lt hq1) (e1.symm.trans e)
    · rcases List.mem_cons.mp hb with e1 | hb
      · exact Nat.ne_of_gt hq1 (e1.symm.trans e)
      · have e2 := List.mem_singleton.mp hb
        have hn := (N q hq).2.2
        rw [← e, e2, hol] at hn
        cases hn
end
end Mine
end
section
open PySem PySem.W PyProof.Rows PySem.Calls
namespace Mine
theorem off_one {own : List (Addr × Obj)} {D : Addr} (h : ∀ p ∈ own, p.1 ≠ D) : OwnOff own [D] := fun p hp b hb => by rw [List.mem_singleton.mp hb]; exact h p hp
section
variable {prog : Program} {w : World} {A : Around} {E : Value → Shared → Prop} {s : Shared} {env : Env} {h₀ : Heap} {m : Str → Option Value}
/-- the frame with two more names -/
noncomputable abbrev m2 (x y : Str) (u v : Option Value) (m : Str → Option Value) : Str → Option Value := fun z => if z = y then v else if z = x then u else m z
theorem m2_over (x y : Str) (u v u' v' : Option Value) (m : Str → Option Value) : m2 x y u v (m2 x y u' v' m) = m2 x y u v m := by
  funext z
  unfold m2
  by_cases h1 : z = y
  · rw [if_pos h1, if_pos h1]
  · rw [if_neg h1, if_neg h1]
    by_cases h2 : z = x
    · simp only [if_pos h2, if_neg h1]
    · simp only [if_neg h2, if_neg h1]
theorem fr_at {L I : Addr} {h h' : Heap} (F : Fr h₀ L h m) (hk : Heap.ExtBut I h h') (hL : L ≠ I) (h0 : h₀.get? I = none) : Fr h₀ L h' m :=
  ⟨F.ns.at' fun o e => hk _ o hL e, fun b o e => hk b o (fun q => by rw [q, h0] at e; cases e) (F.keep b o e), F.above⟩
theorem news_at {L I : Addr} {h h' : Heap} {news : List (Addr × Obj)} (N : News h₀ L h news) (hk : Heap.ExtBut I h h') (hn : ∀ p ∈ news, p.1 ≠ I) : News h₀ L h' news :=
  fun p hp => ⟨hk _ _ (hn p hp) (N p hp).1, (N p hp).2⟩

/-- what a turn leaves: at a hit one more text and a break, else nothing -/
inductive PairEnd (h₀ : Heap) (L D : Addr) (m : Str → Option Value) (own : List (Addr × Obj)) (its : Array Value) (nD : Nat) (c : Str) (hit : Bool) (s₁ : Shared) (f : Flow) (s₂ : Shared) : Prop
  | mk (h' tk') : s₂ = { s₁ with heap := h', toks := tk' } → Fr h₀ L h' m → (match hit with
    | true => f = .brk ∧ ∃ t k, News h₀ L h' ((D, listOf (its.push (.str c t)) k) :: own)
    | false => f = .next ∧ News h₀ L h' ((D, listOf its nD) :: own)) → PairEnd h₀ L D m own its nD c hit s₁ f s₂
inductive ElseEnd (h₀ : Heap) (L D : Addr) (m : Str → Option Value) (own : List (Addr × Obj)) (its : Array Value) (c : Str) (s₁ : Shared) (f : Flow) (s₂ : Shared) : Prop
  | mk (h' tk' t k) : s₂ = { s₁ with heap := h', toks := tk' } → Fr h₀ L h' m → f = .next → News h₀ L h' ((D, listOf (its.push (.str c t)) k) :: own) → ElseEnd h₀ L D m own its c s₁ f s₂
noncomputable abbrev Pairs := List (Addr × Int × Str)
noncomputable def pickP (hit : Int → Bool) (d : Str) : Pairs → Str
  | [] => d
  | p :: r => if hit p.2.1 = true then p.2.2 else pickP hit d r
noncomputable def PairsIn (h : Heap) (ps : Pairs) : Prop := ∀ p ∈ ps, ∃ t u, h.IsTuple p.1 #[.int p.2.1 t, .str p.2.2 u]
inductive PairsTurn (h₀ : Heap) (L : Addr) (m : Str → Option Value) (s : Shared) (I T D : Addr) (xi xc : Str) (hit : Int → Bool) (d : Str) (ps : Pairs) (its : Array Value) (nD : Nat) (own : List (Addr × Obj)) (k : Nat) (s' : Shared) : Prop
  | mk (h' : Heap) (tk' : Nat) (ps₁ ps₂ : Pairs) (u v : Option Value) : s' = { s with heap := h', toks := tk' } → ps = ps₁ ++ ps₂ → k = ps₂.length → pickP hit d ps = pickP hit d ps₂ → h'.IsTupleIter I T ps₁.length →
      Fr h₀ L h' (m2 xi xc u v m) → News h₀ L h' ((D, listOf its nD) :: own) → PairsTurn h₀ L m s I T D xi xc hit d ps its nD own k s'
theorem for_pairs {Q : Flow → Shared → Prop} {xi xc xt : Str} {pk pv pt pos pn : Pos} {x1 : Nat} {body orelse : List Stmt} {T D : Addr} {its : Array Value} {nD : Nat} {own : List (Addr × Obj)} {ps : Pairs} (hit : Int → Bool) (d : Str)
    {u0 v0 : Option Value} (hh : A.handled = none) (F : Fr h₀ env.locals s.heap (m2 xi xc u0 v0 m)) (N : News h₀ env.locals s.heap ((D, listOf its nD) :: own)) (off : OwnOff own [D])
    (hT : h₀.IsTuple T (ps.map fun p => Value.ref p.1).toArray) (hps : PairsIn h₀ ps)
    (hxi : env.kindOf xi = some .local) (hxc : env.kindOf xc = some .local)
    (hp : (env.scope.kind == .class || (env.scope.kind == .module && env.locals != env.globals)) = false)
    (hxt : env.kindOf xt = some .local) (hk : env.scope.kind = .function) (hxd : (xt == ("__debug__" : Str)) = false) (hxT : m2 xi xc u0 v0 m xt = some (.ref T))
    (turn : ∀ p t u h tk own', p ∈ ps → OwnOff own' [D] → Fr h₀ env.locals h (m2 xi xc (some (.int p.2.1 t)) (some (.str p.2.2 u)) m) → News h₀ env.locals h ((D, listOf its nD) :: own') →
      wpAny (model prog w) A (execs body env) (PairEnd h₀ env.locals D (m2 xi xc (some (.int p.2.1 t)) (some (.str p.2.2 u)) m) own' its nD p.2.2 (hit p.2.1) { s with heap := h, toks := tk }) E { s with heap := h, toks := tk })
    (els : ∀ u v h tk own', OwnOff own' [D] → Fr h₀ env.locals h (m2 xi xc u v m) → News h₀ env.locals h ((D, listOf its nD) :: own') →
      wpAny (model prog w) A (execs orelse env) (ElseEnd h₀ env.locals D (m2 xi xc u v m) own' its d { s with heap := h, toks := tk }) E { s with heap := h, toks := tk })
    (H : ∀ h' tk' t k u v, Fr h₀ env.locals h' (m2 xi xc u v m) → News h₀ env.locals h' ((D, listOf (its.push (.str (pickP hit d ps) t)) k) :: own) → Q .next { s with heap := h', toks := tk' })
    (hs : ∀ x, foldedSetIterable (.Name xt pn) env x = pure x := by intro _; rfl)
    (hE : PassesOwn (model prog w) A env E := by passes_own) :
    wpAny (model prog w) A (exec (.For (.Tuple [.Name xi pk, .Name xc pv] x1 pt) (.Name xt pn) body orelse pos) env) Q E s := by
  obtain ⟨oT, hoT, hcT⟩ := id hT
  have hTs : s.heap.IsTuple T (ps.map fun p => Value.ref p.1).toArray := ⟨oT, F.keep _ _ hoT, hcT⟩
  have hTlt : T < h₀.objs.size := Heap.lt_size hoT
  have hLs : env.locals < s.heap.objs.size := F.ns.lt
  have hab : h₀.objs.size ≤ env.locals := F.above
  refine wpAny_For (wpAny_Name (wpAny_loadName_local hk hxt F.ns hxT (wpAny_pyIter_tuple hTs ?_)) hxd) hs
  obtain ⟨I, hI⟩ : ∃ I, I = s.heap.objs.size := ⟨_, rfl⟩
  have hIL : env.locals ≠ I := by rw [hI]; exact Nat.ne_of_lt hLs
  have hI0 : h₀.get? I = none := Heap.get?_none_of_le (by rw [hI]; exact Nat.le_trans hab (Nat.le_of_lt hLs))
  have hTI : T ≠ I := by rw [hI]; exact Nat.ne_of_lt (Nat.lt_trans (Nat.lt_of_lt_of_le hTlt hab) hLs)
  have hNI : ∀ p ∈ ((D, listOf its nD) :: own), p.1 ≠ I := fun p hp => by rw [hI]; exact Nat.ne_of_lt (Heap.lt_size (N p hp).1)
  have hDI : D ≠ I := hNI _ (List.mem_cons_self ..)
  rw [← hI]
  refine codeAny_forLoop_any (R := fun r s' => match r with | .ok f => Q f s' | .error e => cameBackBy (model prog w) A env E e s')
    (PairsTurn h₀ env.locals m s I T D xi xc hit d ps its nD own) ?_ ps.length
    ⟨_, _, [], ps, u0, v0, rfl, rfl, rfl, rfl, by rw [hI]; exact ⟨_, Heap.get?_push_size _ rfl, rfl, rfl⟩, F.push _, fun p hp => ⟨Heap.get?_push_of_some _ (N p hp).1, (N p hp).2⟩⟩
  rintro k s' ⟨h', tk', ps₁, ps₂, u, v, rfl, hps12, rfl, hpk, hit', F', N'⟩
  have hT' : h'.IsTuple T (ps.map fun p => Value.ref p.1).toArray := ⟨oT, F'.keep _ _ hoT, hcT⟩
  cases ps₂ with
  | nil =>
    rw [List.append_nil] at hps12
    refine wpAny_pyNext_tuple_end hh hit' hT' (by rw [hps12]; simp) fun h₁ hx => ?_
    refine wpAny_passesOwn hE ?_
    refine wpAny_mono (els u v h₁ tk' own off (fr_at F' hx hIL hI0) (news_at N' hx hNI)) (fun f s₃ h₃ => ?_) fun _ _ e => e
    obtain ⟨h₃', tk₃, t, k, rfl, F₃, rfl, N₃⟩ := h₃
    have := H h₃' tk₃ t k u v F₃
    rw [hpk] at this
    exact this N₃
  | cons p ps₂ =>
    have hx : (ps.map fun p => Value.ref p.1).toArray[ps₁.length]? = some (.ref p.1) := by rw [hps12]; simp
    refine wpAny_pyNext_tuple_item hit' hT' hx fun h₁ hit₁ hs₁ => ?_
    have F₁ := fr_at F' hs₁.extBut hIL hI0
    have N₁ := news_at N' hs₁.extBut hNI
    refine letGo_tupleiter hit₁ ?_
    have hpm : p ∈ ps := by rw [hps12]; simp
    obtain ⟨t, uu, oP, hoP, hcP⟩ := hps p hpm
    have hP₁ : h₁.IsTuple p.1 #[.int p.2.1 t, .str p.2.2 uu] := ⟨oP, F₁.keep _ _ hoP, hcP⟩
    refine wpAny_assign_Tuple hh hP₁ rfl rfl fun h₃ hx₃ => ?_
    replace hx₃ : Heap.ExtBut h₁.objs.size h₁ h₃ := hx₃
    have up₃ : ∀ b o, h₁.get? b = some o → h₃.get? b = some o := fun b o x => hx₃ b o (Nat.ne_of_lt (Heap.lt_size x)) x
    have F₃ := fr_keeps F₁ up₃
    have N₃ := news_keeps N₁ up₃
    show wpAny _ A (do holding [_] (assign (.Name xi pk) env _); do holding [] (assign (.Name xc pv) env _); pure ()) _ _ _
    refine wpAny_bind (wpAny_holding (wpAny_assign_Name (wpAny_storeName_local hxi F₃.ns (fun h₄ hn₄ hs₄ => ?_) hp)))
    replace hs₄ : Heap.SameBut env.locals h₃ h₄ := hs₄
    have F₄ := F₃.set hn₄ hs₄
    refine wpAny_bind (wpAny_holding (wpAny_assign_Name (wpAny_storeName_local hxc F₄.ns (fun h₅ hn₅ hs₅ => wpAny_pure ?_) hp)))
    replace hs₅ : Heap.SameBut env.locals h₄ h₅ := hs₅
    have F₅ : Fr h₀ env.locals h₅ (m2 xi xc (some (.int p.2.1 t)) (some (.str p.2.2 uu)) (m2 xi xc u v m)) := F₄.set hn₅ hs₅
    rw [m2_over] at F₅
    have N₅ : News h₀ env.locals h₅ ((D, listOf its nD) :: own) := (N₃.set hs₄).set hs₅
    obtain ⟨oI, hoI, hcI⟩ := id hit₁
    have hoI5 : h₅.get? I = some oI := hs₅.extBut _ _ hIL.symm (hs₄.extBut _ _ hIL.symm (up₃ _ _ hoI))
    have off5 : OwnOff ((I, oI) :: own) [D] := off_one fun q hq => by
      rcases List.mem_cons.mp hq with rfl | hq
      · exact hDI.symm
      · exact off q hq D (List.mem_singleton.mpr rfl)
    have N5' : News h₀ env.locals h₅ ((D, listOf its nD) :: (I, oI) :: own) := fun q hq => by
      rcases List.mem_cons.mp hq with rfl | hq
      · exact N₅ _ (List.mem_cons_self ..)
      · rcases List.mem_cons.mp hq with rfl | hq
        · exact ⟨hoI5, hIL.symm, hI0⟩
        · exact N₅ _ (List.mem_cons_of_mem _ hq)
    refine wpAny_passesOwn hE ?_
    refine wpAny_mono (turn p t uu h₅ _ _ hpm off5 F₅ N5') (fun f s₃ h₆ => ?_) fun _ _ e => e
    obtain ⟨h₆', tk₆, rfl, F₆, h₆⟩ := h₆
    cases hq : hit p.2.1 with
    | true =>
      rw [hq] at h₆
      obtain ⟨rfl, t', k', N₆⟩ := h₆
      have := H h₆' tk₆ t' k' _ _ F₆
      rw [hpk, pickP, if_pos hq] at this
      exact this fun q hq' => N₆ q (by
        rcases List.mem_cons.mp hq' with rfl | hq'
        · exact List.mem_cons_self ..
        · exact List.mem_cons_of_mem _ (List.mem_cons_of_mem _ hq'))
    | false =>
      rw [hq] at h₆
      obtain ⟨rfl, N₆⟩ := h₆
      refine ⟨ps₂.length, by simp, h₆', tk₆, ps₁ ++ [p], ps₂, _, _, rfl, by rw [hps12]; simp, rfl, ?_, ?_, F₆, fun q hq' => N₆ q (by
        rcases List.mem_cons.mp hq' with rfl | hq'
        · exact List.mem_cons_self ..
        · exact List.mem_cons_of_mem _ (List.mem_cons_of_mem _ hq'))⟩
      · rw [hpk, pickP, if_neg (by rw [hq]; exact Bool.false_ne_true)]
      · rw [List.length_append, List.length_singleton]
        exact ⟨oI, (N₆ (I, oI) (List.mem_cons_of_mem _ (List.mem_cons_self ..))).1, hcI⟩
theorem m2_comm {a b c d : Str} (h1 : a ≠ c) (h2 : a ≠ d) (h3 : b ≠ c) (h4 : b ≠ d) (u v u' v' : Option Value) (m : Str → Option Value) : m2 a b u v (m2 c d u' v' m) = m2 c d u' v' (m2 a b u v m) := by
  funext z
  unfold m2
  by_cases e1 : z = a
  · subst e1; simp only [if_neg h1, if_neg h2]
  · by_cases e2 : z = b
    · subst e2; simp only [if_neg h3, if_neg h4]
    · simp only [if_neg e1, if_neg e2]
theorem m2_self (a b : Str) (m : Str → Option Value) : m = m2 a b (m a) (m b) m := by
  funext z
  unfold m2
  by_cases e2 : z = b
  · rw [if_pos e2, e2]
  · rw [if_neg e2]
    by_cases e1 : z = a
    · rw [if_pos e1, e1]
    · rw [if_neg e1]
inductive StepEnd (h₀ : Heap) (L D : Addr) (xb xc : Str) (m : Str → Option Value) (own : List (Addr × Obj)) (its : Array Value) (c : Str) (s₁ : Shared) (f : Flow) (s₂ : Shared) : Prop
  | mk (h' tk' t k u v) : s₂ = { s₁ with heap := h', toks := tk' } → Fr h₀ L h' (m2 xb xc u v m) → f = .next → News h₀ L h' ((D, listOf (its.push (.str c t)) k) :: own) → StepEnd h₀ L D xb xc m own its c s₁ f s₂
theorem strs_snoc {vs : List Value} {ss : List Str} (h : StrsAre vs ss) (c : Str) (t : Tok) : StrsAre (vs ++ [.str c t]) (ss ++ [c]) := by
  induction h with
  | nil => exact .cons _ _ .nil
  | cons x u _ ih => exact .cons _ _ ih
theorem for_tabs {Q : Flow → Shared → Prop} {xi xt xb xc : Str} {body : List Stmt} {T D : Addr} {k0 : Nat} {tabs : List (Addr × Pairs)} (g : Nat → Addr × Pairs → Str)
    (hh : A.handled = none) (F : Fr h₀ env.locals s.heap m) (N : News h₀ env.locals s.heap [(D, listOf #[] k0)])
    (hT : h₀.IsTuple T (tabs.map fun p => Value.ref p.1).toArray)
    (n1 : xi ≠ xb) (n2 : xi ≠ xc) (n3 : xt ≠ xb) (n4 : xt ≠ xc)
    (hlen : tabs.length ≤ 64) (turn : ∀ i e t u v its nD own h tk, tabs[i]? = some e → its.size ≤ 64 → OwnOff own [D] → Fr h₀ env.locals h (m2 xb xc u v (m2 xi xt (some (.int ((i : Nat) : Int) t)) (some (.ref e.1)) m)) → News h₀ env.locals h ((D, listOf its nD) :: own) →
      wpAny (model prog w) A (execs body env) (StepEnd h₀ env.locals D xb xc (m2 xi xt (some (.int ((i : Nat) : Int) t)) (some (.ref e.1)) m) own its (g i e) { s with heap := h, toks := tk }) E { s with heap := h, toks := tk })
    (done : ∀ h' tk' u v a b its nD, Fr h₀ env.locals h' (m2 xb xc u v (m2 xi xt a b m)) → News h₀ env.locals h' [(D, listOf its nD)] → StrsAre its.toList (tabs.zipIdx.map fun p => g p.2 p.1) → Q .next { s with heap := h', toks := tk' }) :
    wpAny (model prog w) A (call (.type "enumerate") [.ref T]) (fun xv s₁ => wpAny (model prog w) A (pyIter xv) (fun it s₂ => PairAt3 prog w A h₀ env xi xt body Q E it s₂) E s₁) E s := by
  have hT' : h₀.IsTuple T (tabs.map fun p => Value.ref p.1).toArray := hT
  refine enum_src hh hT' F N fun h₁ e F₁ N₁ S => ?_
  refine S env rfl xi xt body Q (fun i m₁ news₁ => (∃ u v a b, m₁ = m2 xb xc u v (m2 xi xt a b m)) ∧ ∃ its nD, news₁ = [(D, listOf its nD)] ∧ StrsAre its.toList ((tabs.take i).zipIdx.map fun p => g p.2 p.1))
    ⟨⟨_, _, _, _, by rw [← m2_self xi xt, ← m2_self xb xc]⟩, #[], k0, rfl, .nil⟩ ?_ ?_
  · rintro i a t v m₁ news₁ s₁ own ⟨h₂, tk₂, rfl⟩ ha hv ⟨⟨u, v', a', b', rfl⟩, its, nD, rfl, hits⟩ - hoff F₂ N₂
    rw [List.getElem?_map] at ha
    cases he : tabs[i]? with
    | none => rw [he] at ha; cases ha
    | some e =>
      rw [he] at ha
      cases ha
      have hv' : v = Value.ref e.1 := hv
      subst hv'
      have F₃ : Fr h₀ env.locals h₂ (m2 xb xc u v' (m2 xi xt (some (.int ((i : Nat) : Int) t)) (some (.ref e.1)) m)) := by
        rw [← m2_over xi xt (some (.int ((i : Nat) : Int) t)) (some (.ref e.1)) a' b' m, ← m2_comm n1 n2 n3 n4]
        exact F₂
      have hz : its.size ≤ 64 := by
        have := hits.length
        rw [Array.length_toList, List.length_map, List.length_zipIdx, List.length_take] at this
        omega
      refine wpAny_mono (turn i e t u v' its nD own h₂ tk₂ he hz (off_one fun p hp => hoff p hp _ (List.mem_singleton.mpr rfl)) F₃ fun p hp => N₂ p (by
        rcases List.mem_cons.mp hp with rfl | hp
        · exact List.mem_append_right _ (List.mem_singleton.mpr rfl)
        · exact List.mem_append_left _ hp)) (fun f s₃ h₃ => ?_) fun _ _ e => e
      obtain ⟨h', tk', t', k', u', v'', rfl, F', rfl, N'⟩ := h₃
      refine ⟨rfl, h', tk', _, [(D, listOf (its.push (.str (g i e) t')) k')], rfl, F', fun p hp => N' p (by
        rcases List.mem_append.mp hp with hp | hp
        · exact List.mem_cons_of_mem _ hp
        · rw [List.mem_singleton.mp hp]; exact List.mem_cons_self ..), rfl, ⟨_, _, _, _, rfl⟩, _, _, rfl, ?_⟩
      have hlt : i < tabs.length := (List.getElem?_eq_some_iff.mp he).1
      rw [List.take_add_one, he, Array.toList_push]
      have e1 : (tabs.take i ++ (some e).toList).zipIdx.map (fun p => g p.2 p.1) = (tabs.take i).zipIdx.map (fun p => g p.2 p.1) ++ [g i e] := by
        rw [List.zipIdx_append, List.map_append]
        simp [Nat.min_eq_left (Nat.le_of_lt hlt)]
      rw [e1]
      exact strs_snoc hits _ _
  · rintro h' tk' m' news' F' N' - ⟨⟨u, v, a, b, rfl⟩, its, nD, rfl, hits⟩
    rw [List.take_of_length_le (by simp)] at hits
    exact done h' tk' u v a b its nD F' N' hits
end
end Mine
end
section
open PySem PySem.W PyProof.Rows PySem.Calls
namespace Mine
set_option maxRecDepth 100000
noncomputable def fmTab : List (Addr × Pairs) := [(87, [(80, 40960, Str.ofString "l"), (81, 49152, Str.ofString "s"), (82, 32768, Str.ofString "-"), (83, 24576, Str.ofString "b"), (84, 16384, Str.ofString "d"), (85, 8192, Str.ofString "c"), (86, 4096, Str.ofString "p")]), (89, [(88, 256, Str.ofString "r")]), (91, [(90, 128, Str.ofString "w")]), (95, [(92, 2112, Str.ofString "s"), (93, 2048, Str.ofString "S"), (94, 64, Str.ofString "x")]), (97, [(96, 32, Str.ofString "r")]), (99, [(98, 16, Str.ofString "w")]), (103, [(100, 1032, Str.ofString "s"), (101, 1024, Str.ofString "S"), (102, 8, Str.ofString "x")]), (105, [(104, 4, Str.ofString "r")]), (107, [(106, 2, Str.ofString "w")]), (111, [(108, 513, Str.ofString "t"), (109, 512, Str.ofString "T"), (110, 1, Str.ofString "x")])]

inductive ModeIs (n : Int) : Prop where
  | intro
noncomputable def hitAt (n : Int) (i : Nat) (b : Int) : Bool := if ((i : Nat) : Int) = 0 then decide (Builtin.bitAnd n 61440 = b) else decide (Builtin.bitAnd n b = b)
noncomputable def dflAt (i : Nat) : Str := if ((i : Nat) : Int) = 0 then Str.ofString "?" else Str.ofString "-"
noncomputable def lookAt (n : Int) (i : Nat) (e : Addr × Pairs) : Str := pickP (hitAt n i) (dflAt i) e.2
noncomputable def looksL (n : Int) : List Str := fmTab.zipIdx.map fun p => lookAt n p.2 p.1
theorem strs_vals {vs : List Value} {ss : List Str} (h : StrsAre vs ss) : ∃ l : List (Str × Tok), strValues l = vs ∧ l.map (·.1) = ss := by
  induction h with
  | nil => exact ⟨[], rfl, rfl⟩
  | cons x t _ ih =>
    obtain ⟨l, h1, h2⟩ := ih
    exact ⟨(x, t) :: l, by rw [← h1]; rfl, by rw [← h2]; rfl⟩
theorem join_len : ∀ (ss : List Str) (a : Nat), (∀ x ∈ ss, x.length ≤ 1) → ss.foldl (· + ·.length + (Str.ofString "").length) a ≤ a + ss.length
  | [], a, _ => Nat.le_refl _
  | x :: r, a, h => by
    have h1 := join_len r (a + x.length + (Str.ofString "").length) fun y hy => h y (List.mem_cons_of_mem _ hy)
    have h2 := h x (List.mem_cons_self ..)
    have h3 : (Str.ofString "").length = 0 := by decide
    rw [List.foldl_cons, List.length_cons]
    omega
theorem join_ok {ss : List Str} (h : ∀ x ∈ ss, x.length ≤ 1) (hl : ss.length ≤ 64) : JoinOk (Str.ofString "") ss = true := by
  unfold JoinOk
  have h1 := join_len ss 0 h
  have : Builtin.Str.tooLong (ss.toArray.foldl (· + ·.length + (Str.ofString "").length) 0) = false := by
    unfold Builtin.Str.tooLong
    rw [List.foldl_toArray, sizeLine_eq]
    simp only [decide_eq_false_iff_not]
    omega
  rw [this]; rfl
theorem pick_len (hit : Int → Bool) (d : Str) (hd : d.length ≤ 1) : ∀ ps : Pairs, (∀ p ∈ ps, p.2.2.length ≤ 1) → (pickP hit d ps).length ≤ 1
  | [], _ => hd
  | p :: r, h => by
    unfold pickP
    split
    · exact h p (List.mem_cons_self ..)
    · exact pick_len hit d hd r fun q hq => h q (List.mem_cons_of_mem _ hq)
theorem tab_len : ∀ e ∈ fmTab, ∀ p ∈ e.2, p.2.2.length ≤ 1 := by decide +kernel
theorem dfl_len (i : Nat) : (dflAt i).length ≤ 1 := by
  unfold dflAt
  split <;> decide
theorem looks_len (n : Int) : ∀ x ∈ looksL n, x.length ≤ 1 := by
  intro x hx
  obtain ⟨⟨e, i⟩, he, rfl⟩ := List.mem_map.mp hx
  have he' : e ∈ fmTab := by
    have := List.mem_zipIdx he
    rw [this.2.2]
    exact List.getElem_mem _
  exact pick_len _ _ (dfl_len i) _ (tab_len e he')
noncomputable def look (n : Int) : Str := Txt.join (Str.ofString "") (looksL n)
theorem join_call {prog : Program} {w : World} {A : Around} {E : Value → Shared → Prop} {h : Heap} {g : Array GenState} {d : Drawn} {tk : Nat} {o : OsState} {h₀ : Heap} {L D : Addr} {its : Array Value} {nD : Nat} {n : Int} {t : Tok} {Q : Value → Shared → Prop}
    (N : News h₀ L h [(D, listOf its nD)]) (hS : StrsAre its.toList (looksL n)) (H : ∀ t' k', Q (.str (look n) t') ⟨h, g, d, k', o⟩) : wpAny (model prog w) A (call (.builtin "str.join") [.str (Str.ofString "") t, .ref D]) Q E ⟨h, g, d, tk, o⟩ := by
  obtain ⟨l, h1, h2⟩ := strs_vals hS
  refine SC.join (l := l) (texts := looksL n) ?_ h2 (join_ok (looks_len n) (by show 10 ≤ 64; decide)) H
  rw [h1]
  exact ⟨_, (N _ (List.mem_cons_self ..)).1, rfl, nD, by simp [W.listOf]⟩
theorem tab_top {w : World} {h : Heap} (X : (Mine.hd.heap_39 w.params).In h) : h.IsTuple 112 (fmTab.map fun p => Value.ref p.1).toArray := by
  have h1 := X 112 _ rfl
  exact ⟨_, h1, rfl, _, rfl⟩
theorem tup_at {h : Heap} {a : Addr} {vs : Array Value} {n : Nat} (h1 : h.get? a = some { cls := .type "tuple", data := .seq vs n }) : h.IsTuple a vs := ⟨_, h1, rfl, _, rfl⟩
theorem pairs_nil {h : Heap} : PairsIn h [] := fun _ h => nomatch h
theorem pairs_cons {h : Heap} {a : Addr} {b : Int} {c : Str} {ps : Pairs} {t u : Tok} {n : Nat} (h1 : h.get? a = some { cls := .type "tuple", data := .seq #[.int b t, .str c u] n }) (h2 : PairsIn h ps) : PairsIn h ((a, b, c) :: ps) := fun p hp => by
  rcases List.mem_cons.mp hp with rfl | hp
  · exact ⟨t, u, _, h1, rfl, _, rfl⟩
  · exact h2 p hp
theorem tab_all {w : World} {h : Heap} (X : (Mine.hd.heap_39 w.params).In h) : ∀ e ∈ fmTab, h.IsTuple e.1 (e.2.map fun p => Value.ref p.1).toArray ∧ PairsIn h e.2 := by
  unfold fmTab
  repeat' (first | exact List.forall_mem_nil _ | refine List.forall_mem_cons.mpr ⟨⟨tup_at (X _ _ rfl), ?_⟩, ?_⟩ | exact pairs_nil | refine pairs_cons (X _ _ rfl) ?_)
theorem tab_at {w : World} {h : Heap} {i : Nat} {e : Addr × Pairs} (X : (Mine.hd.heap_39 w.params).In h) (he : fmTab[i]? = some e) : h.IsTuple e.1 (e.2.map fun p => Value.ref p.1).toArray ∧ PairsIn h e.2 := tab_all X e (List.mem_of_getElem? he)
structure TabAt (h : Heap) (i : Nat) (e : Addr × Pairs) : Prop where
  tup : h.IsTuple e.1 (e.2.map fun p => Value.ref p.1).toArray
  ps : PairsIn h e.2
section
variable {prog : Program} {w : World} {A : Around} {E : Value → Shared → Prop} {s : Shared} {env : Env} {h₀ : Heap} {m : Str → Option Value}
theorem app_own {h : Heap} {g : Array GenState} {d : Drawn} {tk : Nat} {o : OsState} {L D : Addr} {its : Array Value} {n : Nat} {x : Value} {own : List (Addr × Obj)} {Q : Value → Shared → Prop} (F : Fr h₀ L h m) (N : News h₀ L h ((D, listOf its n) :: own)) (off : OwnOff own [D]) (hz : its.size ≤ 64)
    (H : ∀ h', Fr h₀ L h' m → News h₀ L h' ((D, listOf (its.push x) (n + 1)) :: own) → Q .none ⟨h', g, d, tk, o⟩) : wpAny (model prog w) A (call (.builtin "list.append") [.ref D, x]) Q E ⟨h, g, d, tk, o⟩ :=
  append_K F N (.head fun p hp => off p hp D (List.mem_singleton.mpr rfl)) H (by rw [sizeLine_eq]; omega)
theorem fm_tabs {n : Int} {Q : Flow → Shared → Prop} {xi xt : Str} {body : List Stmt} {D : Addr} {k0 : Nat} (_M : ModeIs n) (xb xc : Str)
    (hh : A.handled = none) (F : Fr h₀ env.locals s.heap m) (N : News h₀ env.locals s.heap [(D, listOf #[] k0)]) (X : (Mine.hd.heap_39 w.params).In h₀)
    (n1 : xi ≠ xb) (n2 : xi ≠ xc) (n3 : xt ≠ xb) (n4 : xt ≠ xc)
    (turn : ∀ i e t u v its nD own h tk, TabAt h₀ i e → its.size ≤ 64 → OwnOff own [D] → Fr h₀ env.locals h (fun z => if z = xc then v else if z = xb then u else if z = xt then some (.ref e.1) else if z = xi then some (.int ((i : Nat) : Int) t) else m z) → News h₀ env.locals h ((D, listOf its nD) :: own) →
      wpAny (model prog w) A (execs body env) (StepEnd h₀ env.locals D xb xc (m2 xi xt (some (.int ((i : Nat) : Int) t)) (some (.ref e.1)) m) own its (lookAt n i e) { s with heap := h, toks := tk }) E { s with heap := h, toks := tk })
    (done : ∀ h' tk' u v a b its nD, Fr h₀ env.locals h' (fun z => if z = xc then v else if z = xb then u else if z = xt then b else if z = xi then a else m z) → News h₀ env.locals h' [(D, listOf its nD)] → StrsAre its.toList (looksL n) → Q .next { s with heap := h', toks := tk' }) :
    wpAny (model prog w) A (call (.type "enumerate") [.ref 112]) (fun xv s₁ => wpAny (model prog w) A (pyIter xv) (fun it s₂ => PairAt3 prog w A h₀ env xi xt body Q E it s₂) E s₁) E s :=
  for_tabs (lookAt n) hh F N (tab_top X) n1 n2 n3 n4 (by decide) (fun i e t u v its nD own h tk he => turn i e t u v its nD own h tk ⟨(tab_at X he).1, (tab_at X he).2⟩) done
theorem fm_pairs {n : Int} {Q : Flow → Shared → Prop} {xi xc xt : Str} {pk pv pt pos pn : Pos} {x1 : Nat} {body orelse : List Stmt} {D : Addr} {its : Array Value} {nD : Nat} {own : List (Addr × Obj)} {i : Nat} {e : Addr × Pairs} {u0 v0 : Option Value}
    (_M : ModeIs n) (hT : TabAt h₀ i e)
    (hh : A.handled = none) (F : Fr h₀ env.locals s.heap (fun z => if z = xc then v0 else if z = xi then u0 else m z)) (N : News h₀ env.locals s.heap ((D, listOf its nD) :: own)) (off : OwnOff own [D])
    (hxi : env.kindOf xi = some .local) (hxc : env.kindOf xc = some .local)
    (hp : (env.scope.kind == .class || (env.scope.kind == .module && env.locals != env.globals)) = false)
    (hxt : env.kindOf xt = some .local) (hk : env.scope.kind = .function) (hxd : (xt == ("__debug__" : Str)) = false) (hxT : m2 xi xc u0 v0 m xt = some (.ref e.1))
    (turn : ∀ b c t u h tk own', OwnOff own' [D] → Fr h₀ env.locals h (fun z => if z = xc then some (.str c u) else if z = xi then some (.int b t) else m z) → News h₀ env.locals h ((D, listOf its nD) :: own') →
      wpAny (model prog w) A (execs body env) (PairEnd h₀ env.locals D (m2 xi xc (some (.int b t)) (some (.str c u)) m) own' its nD c (hitAt n i b) { s with heap := h, toks := tk }) E { s with heap := h, toks := tk })
    (els : ∀ u v h tk own', OwnOff own' [D] → Fr h₀ env.locals h (fun z => if z = xc then v else if z = xi then u else m z) → News h₀ env.locals h ((D, listOf its nD) :: own') →
      wpAny (model prog w) A (execs orelse env) (ElseEnd h₀ env.locals D (m2 xi xc u v m) own' its (dflAt i) { s with heap := h, toks := tk }) E { s with heap := h, toks := tk })
    (H : ∀ h' tk' t k u v, Fr h₀ env.locals h' (fun z => if z = xc then v else if z = xi then u else m z) → News h₀ env.locals h' ((D, listOf (its.push (.str (lookAt n i e) t)) k) :: own) → Q .next { s with heap := h', toks := tk' })
    (hs : ∀ x, foldedSetIterable (.Name xt pn) env x = pure x := by intro _; rfl)
    (hE : PassesOwn (model prog w) A env E := by passes_own) :
    wpAny (model prog w) A (exec (.For (.Tuple [.Name xi pk, .Name xc pv] x1 pt) (.Name xt pn) body orelse pos) env) Q E s :=
  for_pairs (hitAt n i) (dflAt i) hh F N off hT.tup hT.ps hxi hxc hp hxt hk hxd hxT (fun p t u h tk own' _ => turn p.2.1 p.2.2 t u h tk own') els H hs hE
variable {L D : Addr} {own : List (Addr × Obj)} {its : Array Value} {nD : Nat} {n b : Int} {i : Nat} {c : Str} {h' : Heap} {tk' : Nat} {t : Tok} {k : Nat}
theorem pe_hit0 (h1 : ((i : Nat) : Int) = 0) (h2 : Builtin.bitAnd n 61440 = b) (F : Fr h₀ L h' m) (N : News h₀ L h' ((D, listOf (its.push (.str c t)) k) :: own)) : PairEnd h₀ L D m own its nD c (hitAt n i b) s .brk { s with heap := h', toks := tk' } := by
  refine ⟨_, _, rfl, F, ?_⟩
  rw [show hitAt n i b = true by unfold hitAt; rw [if_pos h1, h2]; simp]
  exact ⟨rfl, _, _, N⟩
theorem pe_no0 (h1 : ((i : Nat) : Int) = 0) (h2 : Builtin.bitAnd n 61440 ≠ b) (F : Fr h₀ L h' m) (N : News h₀ L h' ((D, listOf its nD) :: own)) : PairEnd h₀ L D m own its nD c (hitAt n i b) s .next { s with heap := h', toks := tk' } := by
  refine ⟨_, _, rfl, F, ?_⟩
  rw [show hitAt n i b = false by unfold hitAt; rw [if_pos h1]; simpa using h2]
  exact ⟨rfl, N⟩
theorem pe_hit (h1 : ((i : Nat) : Int) ≠ 0) (h2 : Builtin.bitAnd n b = b) (F : Fr h₀ L h' m) (N : News h₀ L h' ((D, listOf (its.push (.str c t)) k) :: own)) : PairEnd h₀ L D m own its nD c (hitAt n i b) s .brk { s with heap := h', toks := tk' } := by
  refine ⟨_, _, rfl, F, ?_⟩
  rw [show hitAt n i b = true by unfold hitAt; rw [if_neg h1, h2]; simp]
  exact ⟨rfl, _, _, N⟩
theorem pe_no (h1 : ((i : Nat) : Int) ≠ 0) (h2 : Builtin.bitAnd n b ≠ b) (F : Fr h₀ L h' m) (N : News h₀ L h' ((D, listOf its nD) :: own)) : PairEnd h₀ L D m own its nD c (hitAt n i b) s .next { s with heap := h', toks := tk' } := by
  refine ⟨_, _, rfl, F, ?_⟩
  rw [show hitAt n i b = false by unfold hitAt; rw [if_neg h1]; simpa using h2]
  exact ⟨rfl, N⟩
theorem ee_0 (h1 : ((i : Nat) : Int) = 0) (F : Fr h₀ L h' m) (N : News h₀ L h' ((D, listOf (its.push (.str (Str.ofString "?") t)) k) :: own)) : ElseEnd h₀ L D m own its (dflAt i) s .next { s with heap := h', toks := tk' } :=
  ⟨_, _, _, _, rfl, F, rfl, by rw [show dflAt i = Str.ofString "?" by unfold dflAt; rw [if_pos h1]]; exact N⟩
theorem ee_1 (h1 : ((i : Nat) : Int) ≠ 0) (F : Fr h₀ L h' m) (N : News h₀ L h' ((D, listOf (its.push (.str (Str.ofString "-") t)) k) :: own)) : ElseEnd h₀ L D m own its (dflAt i) s .next { s with heap := h', toks := tk' } :=
  ⟨_, _, _, _, rfl, F, rfl, by rw [show dflAt i = Str.ofString "-" by unfold dflAt; rw [if_neg h1]]; exact N⟩
end
end Mine
end
section
open PySem PySem.W PyProof.Rows PySem.Calls
namespace Mine
set_option pp.deepTerms false
set_option pp.maxSteps 3000
set_option maxRecDepth 100000

theorem lines1_Fm : True := by
  w_top off
  k_with_none
  k_with "eval Constant int" => ((with_reducible refine const_c ?_; intro _ _; (try dsimp only)))
  k_with "binaryOp Add int int" => ((with_reducible refine add_c ?_; intro _ _; (try dsimp only)))
  k_with "binaryOp Sub int int" => ((with_reducible refine sub_c ?_; intro _ _; (try dsimp only)))
  k_with "binaryOp BitAnd int int" => ((with_reducible refine and_c ?_; intro _ _; (try dsimp only)))
  k_with "binaryOp BitOr int int" => ((with_reducible refine or_c ?_; intro _ _; (try dsimp only)))
  k_with "binaryOp BitXor int int" => ((with_reducible refine xor_c ?_; intro _ _; (try dsimp only)))
  k_with "binaryOp Mod int int" => ((with_reducible refine mod_c (by decide) ?_; intro _ _; (try dsimp only)))
  k_with "binaryOp FloorDiv int int" => ((with_reducible refine div_c (by decide) (by decide) ?_; intro _ _; (try dsimp only)))
  k_with "binaryOp Mult int int" => ((with_reducible refine mul_c (by constructor <;> omega) (by constructor <;> omega) ?_; intro _ _; (try dsimp only)))
  k_with "binaryOp LShift int int" => ((with_reducible refine shl_c (by constructor <;> omega) (by constructor <;> omega) ?_; intro _ _; (try dsimp only)))
  k_with "binaryOp RShift int int" => ((with_reducible refine shr_c (by omega) ?_; intro _ _; (try dsimp only)))
  k_with "binaryOp Pow int int" => ((with_reducible refine pow_c (by constructor <;> omega) (by constructor <;> omega) ?_; intro _ _; (try dsimp only)))
  k_with "call ref" => ((k_here; (with_reducible show wpAny _ _ (call (Value.ref 79) [Value.int _ _] _) _ _ _); k_dflt (refine' Fn.use (ifmt_spec _ _ _) ?k1_kw ?k2_kw ?k3_kw ?k4_kw ?k5_kw ?k6_kw ?k7_kw ?k8_kw ?k9_kw ?_; (case k1_kw => k_asm); (case k2_kw => k_asm); (case k3_kw => k_asm); (case k4_kw => k_asm); (case k5_kw => k_asm); (case k6_kw => exact rfl); (case k7_kw => exact rfl); (case k8_kw => omega); (case k9_kw => omega)); intro _ _ _ _ _ _ hP'; obtain ⟨_, e'⟩ := hP'; subst e'; (try dsimp only); (try k_fold)))
  k_with "call type:enumerate" => ((k_here; (with_reducible show wpAny _ _ (call (Value.type _) [Value.ref 112]) _ _ _); k_dflt (refine' fm_tabs (by with_reducible assumption) (Str.ofString "bit") (Str.ofString "char") ?k1_kw ?k2_kw ?k3_kw ?k4_kw ?n1_kw ?n2_kw ?n3_kw ?n4_kw (fun _ _ _ u' v' its' nD' _ h' tk' _ _ _ F' N' => ?_) (fun h' tk' u' v' _ _ its' nD' F' N' _ => ?_); (case k1_kw => exact rfl); (case k2_kw => k_asm); (case k3_kw => k_asm); (case k4_kw => k_asm); (case n1_kw => decide); (case n2_kw => decide); (case n3_kw => decide); (case n4_kw => decide))))
  k_with "exec For Tuple Name cons cons" => ((k_here; k_dflt (refine' fm_pairs (by with_reducible assumption) (by with_reducible assumption) ?k1_kw ?k2_kw ?k3_kw ?k4_kw ?k5_kw ?k6_kw ?k7_kw ?k8_kw ?k9_kw ?kA_kw ?kB_kw (fun _ _ t' u' h' tk' own' hoff' F' N' => ?_) (fun u' v' h' tk' own' hoff' F' N' => ?_) (fun h' tk' t' _ u' v' F' N' => ?_) ?kC_kw ?kD_kw; (case k1_kw => exact rfl); (case k2_kw => k_asm); (case k3_kw => k_asm); (case k4_kw => k_asm); (case k5_kw => exact rfl); (case k6_kw => exact rfl); (case k7_kw => exact rfl); (case k8_kw => exact rfl); (case k9_kw => exact rfl); (case kA_kw => decide); (case kB_kw => exact rfl); (case kC_kw => (intro _; exact rfl)); (case kD_kw => passes_own))))
  k_with "call builtin:list.append" => ((k_here; k_dflt (refine' app_own ?k1_kw ?k2_kw ?k3_kw ?k4_kw (fun _ _ _ => ?_); (case k1_kw => k_asm); (case k2_kw => k_asm); (case k3_kw => with_reducible assumption); (case k4_kw => with_reducible assumption))))
  k_with "call builtin:str.join" => ((k_here; k_dflt (refine join_call (by k_asm) (by with_reducible assumption) ?_); intro _ _))
  trivial
set_option maxRecDepth 100000 in
set_option maxHeartbeats 8000000 in
theorem filemode_spec (w : World) (n : Int) (t : Tok) (hM : ModeIs n) : Fn w 119 2 [.int n t] [] (fun _ v _ => ∃ t, v = .str (look n) t) := by
  unfold Fn
  k_fill
  intro p loose mean mg mb base outer dp un gd s Q E B X T hd hu hret
  refine wpAny_call ?_
  k_dflt (refine' enter0 (binds := [(Str.ofString "mode", .int n t)]) ?k1 ?k3 ?k5 ?k6 ?k7 ?k8 ?k9 ?kB ?_ ?c2 ?c3 ?c4 ?c5; (case k1 => exact B); (case k3 => exact X); (case k5 => exact T); (case k6 => k_is); (case k7 => k_is); (case k8 => ktr_room); (case k9 => exact BindsTo.of_eq rfl); (case c5 => decide); (case kB => exact locs rfl); (case c2 => exact rfl); (case c3 => exact rfl); (case c4 => exact rfl); k_whole; intro L' h' F' N'; (try dsimp only [List.reverse_cons, List.reverse_nil, List.nil_append, List.cons_append] at F'); (try dsimp only); (try k_fold))
  k_steps
  all_goals first
    | exact pe_hit0 (by assumption) (by assumption) (by assumption) (by assumption)
    | exact pe_no0 (by assumption) (by assumption) (by assumption) (by assumption)
    | exact pe_hit (by assumption) (by assumption) (by assumption) (by assumption)
    | exact pe_no (by assumption) (by assumption) (by assumption) (by assumption)
    | exact ee_0 (by assumption) (by assumption) (by assumption)
    | exact ee_1 (by assumption) (by assumption) (by assumption)
    | exact ⟨_, _, _, _, _, _, rfl, by assumption, rfl, by assumption⟩
    | (refine' hret _ _ _ (Fr.keep ?F) ⟨_, rfl⟩; (case F => assumption))
end Mine
end
section
open PySem PySem.W PyProof.Rows PySem.Calls
namespace Mine
theorem enterC {prog : Program} {w : World} {A : Around} {R : Result → Shared → Prop} {s : Shared} {K : Frag} {p : Program} {loose : List Str} {mean : ExcName → Option Value} {mg mb : Str → Option Value} {base : Heap} {outer : List Env}
    {name qual : Str} {params : Arguments} {body : List Stmt} {scope : Scope} {dV kV doc pm cdv ct oc : Value} {an od : Option Addr} {osl : Array (Option Value)} {f : Addr} {args : Args} {binds : List (Str × Value)}
    (B : Below A base outer s.heap) (X : K.In s.heap) (T : Top p loose mean mg mb s.heap)
    (ho : K.lookup f = some ⟨oc, od, .func (fnOf name qual params body scope dV kV doc pm an cdv ct), osl⟩) (hcd : codeIn K cdv qual = true) (hroom : A.depth < recursionLimit)
    (hbind : BindsTo s (fnOf name qual params body scope dV kV doc pm an cdv ct) args binds) (hkind : (binds.all fun y => scope.names.lookup y.1 == some .local || scope.names.lookup y.1 == some .cell) = true)
    (hnd : ((cellsFrom 0 scope.names []).map (·.1)).Nodup)
    (h : ∀ L' h₁ tk cells, Fr s.heap L' h₁ (bindL (envOfC qual scope L' f cdv).kindOf binds fun _ => none) → News s.heap L' h₁ cells →
      CellsAre (bindC (envOfC qual scope L' f cdv).kindOf binds fun _ => none) (cellsFrom (L' + 1) scope.names []) cells →
      wpAny (model prog w) (A.deeper (envOfC qual scope L' f cdv)) (execs body (envOfC qual scope L' f cdv))
        (fun fl s' => R (.ok (.ret (match fl with | .ret v => v | _ => .none))) s')
        (fun e s' => wpAny (model prog w) (A.deeper (envOfC qual scope L' f cdv)) (leaving (envOfC qual scope L' f cdv) e) (fun _ s'' => R (.error e) s'') (fun e' s'' => R (.error e') s'') s')
        { s with heap := h₁, toks := tk })
    (hco : scope.isCoroutine = false) (hgen : scope.isGenerator = false) (hk : scope.kind = .function) : codeAny (model prog w) A (.call (.ref f) args) R s := by
  refine codeAny_call_function hroom (X _ _ ho) rfl hco hgen rfl (codeRec_of X hcd) (hbind _ _ _ _ ?_)
  refine wpAny_newFunctionEnv_cells hk (kindsX hkind _) fun env' he s' x => ?_
  subst he
  refine ⟨T.nolimit.keeps x.toInCall.keep, codeAny_func ?_⟩
  obtain ⟨h₁, tk, rfl, _⟩ := x.done
  have hk₁ := x.toInCall.keep
  obtain ⟨cells, NC, Y⟩ := Cl.news (h₀ := s.heap) (Nat.le_refl _) fun n c hm => ⟨x.cell n c (lookup_of_mem_nodup (cellsFrom_names scope.names 0 (s.heap.objs.size + 1) [] [] rfl ▸ hnd) hm), x.above n c hm⟩
  exact h s.heap.objs.size h₁ tk cells ⟨x.toInCall.ns, hk₁, Nat.le_refl _⟩ NC Y
/-- a contract at a call, the surroundings as they are -/
theorem Fn.useA {w : World} {f : Addr} {k : Nat} {args : List Value} {kw : List (Str × Value)} {P : Heap → Value → Heap → Prop} {p : Program} {loose : List Str} {mean : ExcName → Option Value} {mg mb : Str → Option Value}
    {base h₀ : Heap} {outer : List Env} {A : Around} {s : Shared} {Q E : Value → Shared → Prop} {env : Env} {L : Addr} {m : Str → Option Value} {news : List (Addr × Obj)}
    (C : Fn w f k args kw P) (B : Below A base outer h₀) (F : Fr h₀ L s.heap m) (N : News h₀ L s.heap news) (X : (Mine.hd.heap_39 w.params).In h₀) (T : Top p loose mean mg mb h₀)
    (hh : A.handled = none) (hf : env.frame = some L) (hk : env.scope.kind = .function) (hd : (A.deeper env).depth + k < recursionLimit) (hu : (A.deeper env).units + 8 * k < cLine)
    (h : ∀ v h' tk', Fr h₀ L h' m → News h₀ L h' news → Keeps s.heap h' → P s.heap v h' → Q v { s with heap := h', toks := tk' }) :
    wpAny (model Challenge.rw_oy0045_01.row.prog w) (A.deeper env) (call (.ref f) args kw) Q E s := by
  have B' := pushX B F hf hk
  generalize hA : A.deeper env = A' at B' hd hu ⊢
  have hh' : A'.handled = none := by rw [← hA]; exact hh
  obtain ⟨a1, a2, a3, a4, a5⟩ := A'
  have e1 : a1 = none := hh'
  have e2 : a3 = some (env :: outer) := B'.stack
  subst e1 e2
  exact C p loose mean mg mb base (env :: outer) _ _ _ s Q E B' (X.keeps F.keep) (T.keeps F.keep) hd hu fun v h' tk' kp hP => h v h' tk' (fr_keeps F kp) (news_keeps N kp) kp hP
end Mine
end
section
open PySem PySem.W PyProof.Rows PySem.Calls
namespace Mine
/-- a contract of a def that makes a nested def: the table of its code lies aside -/
noncomputable def FnT (w : World) (f c P : Addr) (k : Nat) (args : List Value) (Pre : Heap → Prop) (Post : Heap → Value → Heap → Prop) : Prop :=
  ∀ (p : Program) (loose : List Str) (mean : ExcName → Option Value) (mg mb : Str → Option Value) (base g : Heap) (outer : List Env) (dp un : Nat) (gd : Option (List Code)) (s : Shared) (Q E : Value → Shared → Prop),
    (∀ b o, g.get? b = some o → s.heap.get? b = some o) → (∀ b o, s.heap.get? b = some o → b ≠ P → g.get? b = some o) → g.get? P = none → g.objs.size = s.heap.objs.size → s.heap.get? P = some (tabObj #[]) →
    Below (Ar dp un gd outer) base outer g → (Mine.hd.heap_39 w.params).In g → Top p loose mean mg mb g → CodeHd g c P →
    dp + k < recursionLimit → un + 8 * k < cLine → Pre g →
    (∀ v h' tk', Keeps g h' → Post g v h' → Q v { s with heap := h', toks := tk' }) →
    wpAny (model Challenge.rw_oy0045_01.row.prog w) (Ar dp un gd outer) (call (.ref f) args) Q E s
theorem FnT.use {w : World} {f c P : Addr} {k : Nat} {args : List Value} {Pre : Heap → Prop} {Post : Heap → Value → Heap → Prop} {p : Program} {loose : List Str} {mean : ExcName → Option Value} {mg mb : Str → Option Value}
    {base h₀ : Heap} {outer : List Env} {dp un : Nat} {gd : Option (List Code)} {s : Shared} {Q E : Value → Shared → Prop} {env : Env} {L : Addr} {m : Str → Option Value} {news : List (Addr × Obj)}
    (C : FnT w f c P k args Pre Post) (B : Below (Ar dp un gd outer) base outer h₀) (F : Fr h₀ L s.heap m) (N : News h₀ L s.heap ((P, tabObj #[]) :: news)) (off : ∀ p ∈ news, p.1 ≠ P) (X : (Mine.hd.heap_39 w.params).In h₀) (T : Top p loose mean mg mb h₀) (hC : CodeHd h₀ c P)
    (hf : env.frame = some L) (hk : env.scope.kind = .function) (hd : dp + 1 + k < recursionLimit) (hu : un + 3 + 8 * k < cLine)
    (hp : ∀ g : Heap, (∀ b o, h₀.get? b = some o → g.get? b = some o) → (∀ p ∈ news, g.get? p.1 = some p.2) → Pre g)
    (h : ∀ v h' tk', Fr h₀ L h' m → News h₀ L h' news → (∀ g : Heap, (∀ b o, h₀.get? b = some o → g.get? b = some o) → (∀ p ∈ news, g.get? p.1 = some p.2) → Keeps g h' → Post g v h' → Q v { s with heap := h', toks := tk' })) :
    wpAny (model Challenge.rw_oy0045_01.row.prog w) ((Ar dp un gd outer).deeper env) (call (.ref f) args) Q E s := by
  have hP := N (P, tabObj #[]) (.head _)
  have N1 : News h₀ L s.heap [(P, tabObj #[])] := fun q hq => by rw [List.mem_singleton.mp hq]; exact hP
  obtain ⟨FG, BG, st, -⟩ := groundX (R := fun _ _ => True) (A := (Ar dp un gd outer).deeper env) B F N1 rfl hf hk
  have kg : ∀ p ∈ news, (hideAll s.heap [P]).get? p.1 = some p.2 := fun q hq => hideAll_get _ (N q (List.mem_cons_of_mem _ hq)).1 (by simpa using off q hq)
  refine C p loose mean mg mb base (hideAll s.heap [P]) (env :: outer) (dp + 1) (un + 3) gd s Q E (fun b o e => of_hideAll _ e) (fun b o e hb => hideAll_get _ e (by simpa using hb)) (hideAll_none _ (by simp)) (hideAll_size _ _) hP.1
    BG (X.keeps st) (T.keeps st) (hC.keeps st) hd hu (hp _ st kg) fun v h' tk' kp hP' => ?_
  refine h v h' tk' ⟨FG.ns.keeps kp, fun b o e => kp _ _ (st b o e), F.above⟩ (fun q hq => ⟨kp _ _ (kg q hq), (N q (List.mem_cons_of_mem _ hq)).2⟩) _ st kg kp hP'
theorem enterT {prog : Program} {w : World} {A : Around} {R : Result → Shared → Prop} {s : Shared} {g : Heap} {P : Addr} {K : Frag} {p : Program} {loose : List Str} {mean : ExcName → Option Value} {mg mb : Str → Option Value} {base : Heap} {outer : List Env}
    {name qual : Str} {params : Arguments} {body : List Stmt} {scope : Scope} {dV kV doc pm cdv ct oc : Value} {an od : Option Addr} {osl : Array (Option Value)} {f : Addr} {args : Args} {binds : List (Str × Value)}
    (hg : ∀ b o, g.get? b = some o → s.heap.get? b = some o) (hgP : g.get? P = none) (hgs : g.objs.size = s.heap.objs.size) (hP : s.heap.get? P = some (tabObj #[]))
    (B : Below A base outer g) (X : K.In g) (T : Top p loose mean mg mb g)
    (ho : K.lookup f = some ⟨oc, od, .func (fnOf name qual params body scope dV kV doc pm an cdv ct), osl⟩) (hcd : codeIn K cdv qual = true) (hroom : A.depth < recursionLimit)
    (hbind : BindsTo s (fnOf name qual params body scope dV kV doc pm an cdv ct) args binds) (hkind : (binds.all fun y => scope.names.lookup y.1 == some .local || scope.names.lookup y.1 == some .cell) = true)
    (hnd : ((cellsFrom 0 scope.names []).map (·.1)).Nodup)
    (h : ∀ L' h₁ tk cells, Fr g L' h₁ (bindL (envOfC qual scope L' f cdv).kindOf binds fun _ => none) → News g L' h₁ (cells ++ [(P, tabObj #[])]) → P < L' →
      CellsAre (bindC (envOfC qual scope L' f cdv).kindOf binds fun _ => none) (cellsFrom (L' + 1) scope.names []) cells →
      wpAny (model prog w) (A.deeper (envOfC qual scope L' f cdv)) (execs body (envOfC qual scope L' f cdv))
        (fun fl s' => R (.ok (.ret (match fl with | .ret v => v | _ => .none))) s')
        (fun e s' => wpAny (model prog w) (A.deeper (envOfC qual scope L' f cdv)) (leaving (envOfC qual scope L' f cdv) e) (fun _ s'' => R (.error e) s'') (fun e' s'' => R (.error e') s'') s')
        { s with heap := h₁, toks := tk })
    (hco : scope.isCoroutine = false) (hgen : scope.isGenerator = false) (hk : scope.kind = .function) : codeAny (model prog w) A (.call (.ref f) args) R s := by
  refine codeAny_call_function hroom (hg _ _ (X _ _ ho)) rfl hco hgen rfl (codeRec_of (X.keeps hg) hcd) (hbind _ _ _ _ ?_)
  refine wpAny_newFunctionEnv_cells hk (kindsX hkind _) fun env' he s' x => ?_
  subst he
  refine ⟨(T.nolimit.keeps hg).keeps x.toInCall.keep, codeAny_func ?_⟩
  obtain ⟨h₁, tk, rfl, _⟩ := x.done
  have hk₁ := x.toInCall.keep
  obtain ⟨cells, NC, Y⟩ := Cl.news (h₀ := s.heap) (Nat.le_refl _) fun n c hm => ⟨x.cell n c (lookup_of_mem_nodup (cellsFrom_names scope.names 0 (s.heap.objs.size + 1) [] [] rfl ▸ hnd) hm), x.above n c hm⟩
  have hPl : P < s.heap.objs.size := Heap.lt_size hP
  refine h s.heap.objs.size h₁ tk cells ⟨x.toInCall.ns, fun b o e => hk₁ b o (hg b o e), Nat.le_of_eq hgs⟩ (fun q hq => ?_) hPl Y
  rcases List.mem_append.mp hq with hq | hq
  · refine ⟨(NC q hq).1, (NC q hq).2.1, ?_⟩
    cases e : g.get? q.1 with
    | none => rfl
    | some o => have := hg _ _ e; rw [(NC q hq).2.2] at this; cases this
  · rw [List.mem_singleton.mp hq]
    exact ⟨hk₁ _ _ hP, Nat.ne_of_lt hPl, hgP⟩
/-- a lambda's call: all that stands is the base -/
theorem enterL {prog : Program} {w : World} {A : Around} {R : Result → Shared → Prop} {s : Shared} {p : Program} {loose : List Str} {mean : ExcName → Option Value} {mg mb : Str → Option Value}
    {name qual : Str} {params : Arguments} {body : Expr} {scope : Scope} {cl : List (Str × Addr)} {pm ctv : Value} {c' : Addr} {f : Addr} {args : Args} {binds : List (Str × Value)}
    (T : Top p loose mean mg mb s.heap)
    (ho : s.heap.get? f = some (kla_obj name qual params body scope cl pm c' ctv)) (hcd : s.heap.CodeRec (.ref c') qual) (hroom : A.depth < recursionLimit)
    (hbind : bindArgs (kla_fn name qual params body scope cl pm (.ref c') ctv) args = pure binds) (hloc : ∀ y ∈ binds, scope.names.lookup y.1 = some .local)
    (h : ∀ L' h₁, Fr s.heap L' h₁ (fun y => binds.reverse.lookup y) → News s.heap L' h₁ [] →
      wpAny (model prog w) (A.deeper (envX qual scope L' f (.ref c') cl)) (eval body (envX qual scope L' f (.ref c') cl))
        (fun v s' => R (.ok (.ret v)) s')
        (fun e s' => wpAny (model prog w) (A.deeper (envX qual scope L' f (.ref c') cl)) (leaving (envX qual scope L' f (.ref c') cl) e) (fun _ s'' => R (.error e) s'') (fun e' s'' => R (.error e') s'') s')
        { s with heap := h₁, toks := s.toks + binds.length })
    (hco : scope.isCoroutine = false) (hgen : scope.isGenerator = false) (hk : scope.kind = .function)
    (hcell : ∀ x ∈ scope.names, x.2 ≠ .cell) : codeAny (model prog w) A (.call (.ref f) args) R s := by
  refine kla_callFunE hroom ho rfl hco hgen rfl hcd ?_
  rw [hbind]
  refine wpAny_pure (wpAny_newFunctionEnv hcell hloc (fun h₁ hns hsb => ⟨T.nolimit.fresh _ hsb, ?_⟩) hk)
  show codeAny _ _ (.expr body (envX qual scope s.heap.objs.size f (.ref c') cl)) _ _
  have hk₁ : ∀ b o, s.heap.get? b = some o → h₁.get? b = some o := fun b o e => hsb.extBut b o (Nat.ne_of_lt (Heap.lt_size e)) (Heap.get?_push_of_some _ e)
  exact kla_codeExpr (h _ h₁ ⟨hns, hk₁, Nat.le_refl _⟩ News.nil)
section
variable {prog : Program} {w : World} {A : Around} {E : Value → Shared → Prop} {h : Heap} {g : Array GenState} {d : Drawn} {tk : Nat} {o : OsState} {h₀ : Heap} {L a c : Addr} {m : Str → Option Value} {cn : Str} {cs : Scope} {ccd : Value} {cl : List (Str × Addr)} {x : Str} {pos : Pos} {v : Value} {Q : Value → Shared → Prop}
theorem free_base (hc : cl.lookup x = some c) (hv : h₀.IsCell c (some v)) (F : Fr h₀ L h m) (H : Q v ⟨h, g, d, tk, o⟩)
    (hk : cs.kind = .function := by rfl) (hx : (envX cn cs L a ccd cl).kindOf x = some .free := by rfl) (hb : (x == ("__debug__" : Str)) = false := by decide) (hn : (x == ("__classdict__" : Str)) = false := by decide) :
    wpAny (model prog w) A (eval (.Name x pos) (envX cn cs L a ccd cl)) Q E ⟨h, g, d, tk, o⟩ :=
  wpAny_Name (wpAny_loadName_free hk hx hc (hv.keeps F.keep) H hn) hb
end
end Mine
end
section
open PySem PySem.W PyProof.Rows PySem.Calls
namespace Mine
theorem ints_of : ∀ {ns : List Int} {ys : List Value}, ys.length = ns.length → (∀ (i : Nat) (y : Value), ys[i]? = some y → ∃ t, y = Value.int (ns.getD i 0) t) → IntsAre ys ns
  | [], [], _, _ => .nil
  | [], _ :: _, h, _ => by simp at h
  | _ :: _, [], h, _ => by simp at h
  | n :: ns, y :: ys, hl, h => by
    obtain ⟨t, rfl⟩ := h 0 y rfl
    exact .cons _ _ (ints_of (by simpa using hl) fun i y hy => h (i + 1) y hy)
theorem ints_map {ns : List Int} {ys : List Value} (f : Int → Int) (hl : ys.length = ns.length) (h : ∀ (i : Nat) (y : Value), ys[i]? = some y → ∃ t, y = Value.int (f (ns.getD i 0)) t) : IntsAre ys (ns.map f) := by
  refine ints_of (by simpa using hl) fun i y hy => ?_
  obtain ⟨t, rfl⟩ := h i y hy
  have : i < ns.length := by rw [← hl]; exact (List.getElem?_eq_some_iff.mp hy).1
  exact ⟨t, by simp [this]⟩
theorem strs_map : ∀ {ns : List Int} {ys : List Value} (f : Int → Str), ys.length = ns.length → (∀ (i : Nat) (y : Value), ys[i]? = some y → ∃ t, y = Value.str (f (ns.getD i 0)) t) → StrsAre ys (ns.map f)
  | [], [], _, _, _ => .nil
  | [], _ :: _, _, h, _ => by simp at h
  | _ :: _, [], _, h, _ => by simp at h
  | n :: ns, y :: ys, f, hl, h => by
    obtain ⟨t, rfl⟩ := h 0 y rfl
    exact .cons _ _ (strs_map f (by simpa using hl) fun i y hy => h (i + 1) y hy)
theorem range_getD (ns : List Int) : (List.range ns.length).map (fun i => ns.getD i 0) = ns := by
  apply List.ext_getElem
  · simp
  · intro i h1 h2
    simp at h1
    simp [h1]
theorem filter_getD (ns : List Int) (p : Int → Bool) : ((List.range ns.length).filter (fun i => p (ns.getD i 0))).map (fun i => ns.getD i 0) = ns.filter p := by
  have := List.filter_map (f := fun i => ns.getD i 0) (p := p) (l := List.range ns.length)
  rw [range_getD] at this
  exact this.symm
theorem ints_filter {ns : List Int} {ys : List Value} {p : Int → Bool} {is : List Nat} (he : is = (List.range ns.length).filter (fun i => p (ns.getD i 0))) (hl : ys.length = is.length)
    (h : ∀ (k i : Nat) (y : Value), is[k]? = some i → ys[k]? = some y → ∃ t, y = Value.int (ns.getD i 0) t) : IntsAre ys (ns.filter p) := by
  rw [← filter_getD, ← he]
  refine ints_of (by simpa using hl) fun k y hy => ?_
  have hk : k < is.length := by rw [← hl]; exact (List.getElem?_eq_some_iff.mp hy).1
  obtain ⟨t, rfl⟩ := h k is[k] y (List.getElem?_eq_getElem hk) hy
  exact ⟨t, by simp [hk]⟩
theorem ints_getD {vs : List Value} {ns : List Int} (h : IntsAre vs ns) {i : Nat} {v : Value} (hv : vs[i]? = some v) : ∃ t, v = .int (ns.getD i 0) t ∧ ns.getD i 0 ∈ ns := by
  have hi : i < ns.length := by
    have := (List.getElem?_eq_some_iff.mp hv).1
    have := h.length; omega
  obtain ⟨t, ht⟩ := h.get i ns[i] (by simp [hi])
  rw [hv] at ht
  cases ht
  refine ⟨t, by simp [hi], by simp [hi]⟩
section
variable {prog : Program} {w : World} {A : Around} {E : Value → Shared → Prop} {h : Heap} {g : Array GenState} {d : Drawn} {tk : Nat} {o : OsState} {h₀ : Heap} {L : Addr} {m : Str → Option Value} {env : Env} {ct elt iter : Expr} {x : Str} {px : Pos} {scope : Scope} {cl : List (Str × Addr)} {pos : Pos} {news : List (Addr × Obj)} {Fin : Shared → List Value → List (Addr × Obj) → Prop}
open LCg LCt
/-- what an element's evaluation finds -/
noncomputable abbrev TurnE (prog : Program) (w : World) (A : Around) (h₀ : Heap) (L : Addr) (m : Str → Option Value) (news : List (Addr × Obj)) (x : Str) (P : Int → Prop) (g : Array GenState) (d : Drawn) (o : OsState) (ev : Addr → Sem α) (R : Int → α → Prop) : Prop :=
  ∀ n u I oI C oC D m₂ ys h tk (E' : Value → Shared → Prop), P n → NsObj oC m₂ → m₂ x = some (.int n u) → Fr h₀ L h m → News h₀ L h ((I, oI) :: (C, oC) :: (D, lst ys) :: news) →
    Off3 I C D news → ((@Ne Nat I C) ∧ (@Ne Nat I D) ∧ (@Ne Nat C D)) → wpAny (model prog w) A (ev C) (Left ⟨h, g, d, tk, o⟩ fun y _ => R n y) E' ⟨h, g, d, tk, o⟩
/-- a list built over a list of ints -/
theorem src_map {ax : Addr} {vs : List Value} {ns : List Int} (Rl : Int → Value → Prop) (hh : A.handled = none) (F : Fr h₀ L h m) (N : News h₀ L h news) (hsrc : SrcAt h₀ ax vs.toArray news) (hi : IntsAre vs ns) (hsz : ns.length ≤ 64)
    (turn : TurnE prog w A h₀ L m news x (fun n => n ∈ ns) g d o (fun C => eval elt (compEnvC scope cl C env)) Rl)
    (fin : ∀ (ys : List Value) hh, ys.length = ns.length → (∀ (i : Nat) y, ys[i]? = some y → Rl (ns.getD i 0) y) → Fin ⟨hh, g, d, tk, o⟩ ys news) :
    CompSrc prog w A h₀ L m env elt x scope cl Fin (.ref ax) ⟨h, g, d, tk, o⟩ := by
  have hl := hi.length
  refine .inl ⟨ax, vs.toArray, news, rfl, hh, F, N, hsrc, by rw [List.size_toArray, sizeLine_eq]; omega, ?_⟩
  rintro s₂ ⟨h₂, rfl⟩
  refine rest_all (fun i y => Rl (ns.getD i 0) y) hsrc ?_ ?_
  · intro i v I oI C oC D m₂ ys h' tk' E' hn hv hC hx' F' N' o3 ne
    obtain ⟨u, rfl, hm⟩ := ints_getD hi (by simpa using hv)
    exact turn _ u I oI C oC D m₂ ys h' tk' E' hm hC hx' F' N' o3 ne
  · intro ys hl' hr
    exact fin ys h₂ (by simpa [hl] using hl') hr
/-- a list built over a list of ints, with a test -/
theorem src_filter {ax : Addr} {vs : List Value} {ns : List Int} (p : Int → Bool) (hh : A.handled = none) (F : Fr h₀ L h m) (N : News h₀ L h news) (hsrc : SrcAt h₀ ax vs.toArray news) (hi : IntsAre vs ns) (hsz : ns.length ≤ 64)
    (turn : TurnE prog w A h₀ L m news x (fun n => n ∈ ns) g d o (fun C => isTrue ct (compEnvC scope cl C env) (eval ct (compEnvC scope cl C env))) (fun n b => b = p n))
    (elts : TurnE prog w A h₀ L m news x (fun n => n ∈ ns) g d o (fun C => eval elt (compEnvC scope cl C env)) (fun n y => ∃ t, y = .int n t))
    (fin : ∀ (ys : List Value) hh, IntsAre ys (ns.filter p) → Fin ⟨hh, g, d, tk, o⟩ ys news) :
    CompSrcT prog w A h₀ L m env ct elt x scope cl Fin (.ref ax) ⟨h, g, d, tk, o⟩ := by
  have hl := hi.length
  have hsz' : vs.toArray.size = ns.length := by simp [hl]
  refine .inl ⟨ax, vs.toArray, news, rfl, hh, F, N, hsrc, by rw [hsz', sizeLine_eq]; omega, ?_⟩
  rintro s₂ ⟨h₂, rfl⟩
  rw [hsz']
  refine rest_allT (fun i => p (ns.getD i 0)) (fun i y => ∃ t, y = .int (ns.getD i 0) t) hsrc ?_ ?_ ?_
  · intro i v I oI C oC D m₂ ys h' tk' E' hn hv hC hx' F' N' o3 ne
    obtain ⟨u, rfl, hm⟩ := ints_getD hi (by simpa using hv)
    exact turn _ u I oI C oC D m₂ ys h' tk' E' hm hC hx' F' N' o3 ne
  · intro i v I oI C oC D m₂ ys h' tk' E' hn _ hv hC hx' F' N' o3 ne
    obtain ⟨u, rfl, hm⟩ := ints_getD hi (by simpa using hv)
    exact elts _ u I oI C oC D m₂ ys h' tk' E' hm hC hx' F' N' o3 ne
  · rintro ys ⟨is, he, hl', hr⟩
    exact fin ys h₂ (ints_filter he hl' hr)
/-- a range with a test that no number passes -/
theorem src_none {r : Addr} {a b : Int} {t u v : Tok} {n : Nat} (hh : A.handled = none) (F : Fr h₀ L h m) (N : News h₀ L h news) (hr : IsRange h r a b 1 t u v) (hsm : Builtin.Range.small a b 1 = true) (hn : Builtin.Range.rangeSize a b 1 = (n : Int)) (hsz : n ≤ 64)
    (turn : TurnE prog w A h₀ L m news x (fun k => a ≤ k ∧ k < a + n) g d o (fun C => isTrue ct (compEnvC scope cl C env) (eval ct (compEnvC scope cl C env))) (fun _ b => b = false))
    (fin : ∀ hh, Fin ⟨hh, g, d, tk, o⟩ [] news) :
    CompSrcT prog w A h₀ L m env ct elt x scope cl Fin (.ref r) ⟨h, g, d, tk, o⟩ := by
  refine .inr ⟨r, a, b, t, u, v, n, news, rfl, hh, F, N, hr, hsm, hn, by rw [sizeLine_eq]; omega, ?_⟩
  rintro s₂ ⟨h₂, rfl⟩
  refine rest_allT (fun _ => false) (fun _ _ => True) trivial ?_ ?_ ?_
  · rintro i v I oI C oC D m₂ ys h' tk' E' hi ⟨u, rfl⟩ hC hx' F' N' o3 ne
    exact turn _ u I oI C oC D m₂ ys h' tk' E' ⟨by omega, by omega⟩ hC hx' F' N' o3 ne
  · intro i v I oI C oC D m₂ ys h' tk' E' _ hf
    cases hf
  · rintro ys ⟨is, he, hl', _⟩
    have : is = [] := by rw [he]; simp
    rw [this] at hl'
    have : ys = [] := List.length_eq_zero_iff.mp hl'
    subst this
    exact fin h₂
end
end Mine
end
section
open PySem PySem.W PyProof.Rows PySem.Calls
set_option maxRecDepth 100000
set_option maxHeartbeats 4000000
namespace Mine
section
variable {prog : Program} {w : World} {A : Around} {E : Value → Shared → Prop} {s : Shared}
theorem code_collect {R : Result → Shared → Prop} {r : Addr} {a b : Int} {t u v : Tok} {n : Nat} (hh : A.handled = none) (hr : IsRange s.heap r a b 1 t u v) (hsmall : Builtin.Range.small a b 1 = true)
    (hn : Builtin.Range.rangeSize a b 1 = (n : Int)) (hlen : n ≤ 64)
    (H : ∀ h' tk acc c, Keeps s.heap h' → h'.get? s.heap.objs.size = some { cls := .type "list", dict := none, data := .seq acc c, slots := #[] } → ItemsOf (fun i v => ∃ t, v = .int (a + i * 1) t) acc n → R (.ok (.ret (.ref s.heap.objs.size))) { s with heap := h', toks := tk }) :
    codeAny (model prog w) A (.builtin "proto.collect" ⟨[.ref r], []⟩) R s := by
  refine codeAny_builtin entry_proto_collect' ?_
  show wpAny _ _ (do again (.builtin "list.__iadd__" ⟨[← newList [], .ref r], []⟩)) _ _ s
  refine wpAny_bind (wpAny_newList (wpAny_pure ⟨Code.quiet_builtin _ (by decide +kernel), codeAny_builtin entry_list_iadd' ?_⟩))
  show wpAny _ _ (Builtin.List.listExtendWith (.ref s.heap.objs.size) (.ref r) (.ref s.heap.objs.size)) _ _ { s with heap := s.heap.push (seqObj "list" #[] 0) }
  have hS : (s.heap.push (seqObj "list" #[] 0)).get? s.heap.objs.size = some { cls := .type "list", data := .seq #[] 0 } := Heap.get?_push_size _ rfl
  rw [Around.under_plainId F.plain_list_iadd _]
  exact wpAny_extend_range (s := { s with heap := s.heap.push (seqObj "list" #[] 0) }) hh (Heap.get?_push_of_some _ hr) hsmall hn (by omega) s.heap.objs.size (.ref s.heap.objs.size) 0 hS fun h' tk acc' c' hk hS' hacc =>
    H h' tk acc' c' (fun b o e => hk b o (Nat.ne_of_lt (Heap.lt_size e)) (Heap.get?_push_of_some _ e)) hS' hacc
theorem collect_range {r : Addr} {a b : Int} {t u v : Tok} {n : Nat} {Q : List Value → Shared → Prop} (hh : A.handled = none) (hr : IsRange s.heap r a b 1 t u v) (hsmall : Builtin.Range.small a b 1 = true)
    (hn : Builtin.Range.rangeSize a b 1 = (n : Int)) (hlen : n ≤ 64)
    (H : ∀ h' tk (xs : List Value), Keeps s.heap h' → xs.length = n → (∀ (i : Nat) x, xs[i]? = some x → ∃ t, x = .int (a + i) t) → Q xs { s with heap := h', toks := tk }) : wpAny (model prog w) A (collect (.ref r)) Q E s := by
  unfold collect
  refine wpAny_bind (wpAny_runValue (code_collect hh hr hsmall hn hlen fun h' tk acc' c' hk hS' hacc => ?_))
  refine wpAny_bind (wpAny_load hS' ?_)
  refine wpAny_pure (H h' tk acc'.toList hk (by simpa using hacc.1) fun i x hx => ?_)
  obtain ⟨t, rfl⟩ := hacc.2 i x (by simpa using hx)
  exact ⟨t, by rw [Int.mul_one]⟩
variable {h₀ : Heap} {L : Addr} {m : Str → Option Value} {news : List (Addr × Obj)} {a kS : Addr} {vs : List Value} {ss : List Str} {keys : Array Value} {e e1 : Nat} {P : PySem.Fin → Shared → Prop}
/-- what comes out: the items in the order of the keys -/
noncomputable def SortedBy (keys : List Value) (vs out : List Value) : Prop :=
  ∃ xs : Array Keyed, xs.toList.Perm (keys.zip vs) ∧ SortedToK strKind xs xs.size ∧ out = xs.toList.map Prod.snd
theorem sk_tail {st : SortSt} (F : Fr h₀ L s.heap m) (N : News h₀ L s.heap (news ++ [(kS, seqObj "list" keys e), (a, seqObj "list" #[] e1)])) (hka : kS ≠ a) (hnk : ∀ p ∈ news, p.1 ≠ kS) (hna : ∀ p ∈ news, p.1 ≠ a)
    (hsz : keys.size = vs.length) (h64 : vs.length < 64) (hp : (arrOf st).Perm (keys.zip vs.toArray)) (hs : SortedToK strKind (arrOf st) (arrOf st).size) (hfl : failedOf st = none)
    (h : ∀ h' tk out c, Fr h₀ L h' m → News h₀ L h' ((a, seqObj "list" out c) :: news) → SortedBy keys.toList vs out.toList → P (.done (.ret .none)) { s with heap := h', toks := tk }) :
    wpAny (model prog w) A (ksk_tail a false e1 (.ref kS) st) P E s := by
  have nk := N (kS, seqObj "list" keys e) (List.mem_append_right _ (.head _))
  have na := N (a, seqObj "list" #[] e1) (List.mem_append_right _ (.tail _ (.head _)))
  have Nn : News h₀ L s.heap news := fun p hp => N p (List.mem_append_left _ hp)
  have hsz2 : (arrOf st).size = vs.length := by rw [hp.size_eq, Array.size_zip, hsz, List.size_toArray, Nat.min_self]
  have hout : ((arrOf st).map (·.2)).size = vs.length := by rw [Array.size_map]; exact hsz2
  have s1 := Heap.SameBut.update s.heap kS (Obj.mapSeq fun _ => (#[] : Array Value))
  have na1 : (s.heap.update kS (Obj.mapSeq fun _ => (#[] : Array Value))).get? a = some (seqObj "list" #[] e1) := (s1.2 a hka.symm).trans na.1
  have s2 := Heap.SameBut.update (s.heap.update kS (Obj.mapSeq fun _ => (#[] : Array Value))) a (Obj.mapSeq fun _ => (arrOf st).map (·.2))
  obtain ⟨c2, hc2⟩ : ∃ c2, ((s.heap.update kS (Obj.mapSeq fun _ => (#[] : Array Value))).update a (Obj.mapSeq fun _ => (arrOf st).map (·.2))).get? a = some (seqObj "list" ((arrOf st).map (·.2)) c2) :=
    ⟨_, get?_update_seq na1 fun _ => (arrOf st).map (·.2)⟩
  have N2 := ksk_news (ksk_news Nn s1 hnk) s2 hna
  unfold ksk_tail
  try dsimp only
  refine wpAny_bind (listUpdate_at nk.1 rfl ?_ (by rw [hsz, sizeLine_eq]; omega) (Nat.zero_le _))
  refine wpAny_bind (wpAny_letGo ?_)
  refine wpAny_bind (seqEpoch_at na1 rfl ?_)
  refine wpAny_bind (listUpdate_at na1 rfl ?_ (Nat.zero_le _) (Nat.le_trans (Nat.le_of_eq hout) (by rw [sizeLine_eq]; omega)))
  rw [hfl]
  simp only [bne_self_eq_false, Bool.false_eq_true, if_false]
  refine wpAny_pure (h _ _ ((arrOf st).map (·.2)) c2 (ksk_fr (ksk_fr F s1 nk.2.1 nk.2.2) s2 na.2.1 na.2.2) (fun p hp => ?_) ⟨arrOf st, ?_, hs, Array.toList_map⟩)
  · rcases List.mem_cons.mp hp with rfl | hp
    · exact ⟨hc2, na.2⟩
    · exact N2 p hp
  · rw [← ksk_zip]; exact Array.perm_iff_toList_perm.mp hp
theorem sk_end (F : Fr h₀ L s.heap m) (N : News h₀ L s.heap (news ++ [(kS, seqObj "list" keys e), (a, seqObj "list" #[] e1)])) (hka : kS ≠ a) (hnk : ∀ p ∈ news, p.1 ≠ kS) (hna : ∀ p ∈ news, p.1 ≠ a)
    (hk : StrsAre keys.toList ss) (hsz : keys.size = vs.length) (h64 : vs.length < 64)
    (h : ∀ h' tk out c, Fr h₀ L h' m → News h₀ L h' ((a, seqObj "list" out c) :: news) → SortedBy keys.toList vs out.toList → P (.done (.ret .none)) { s with heap := h', toks := tk }) :
    wpAny (model prog w) A (ksk_end a false vs.toArray e1 (.ref kS) keys) P E s := by
  have hzs : (keys.zip vs.toArray).size = vs.length := by rw [Array.size_zip, hsz, List.size_toArray, Nat.min_self]
  unfold ksk_end
  try dsimp only
  rw [if_neg Bool.false_ne_true]
  by_cases h2 : vs.toArray.size < 2
  · rw [if_pos h2, if_pos h2]
    refine wpAny_bind (wpAny_pure ?_)
    rw [StateT.run_pure]
    refine wpAny_bind (wpAny_pure ?_)
    try dsimp only
    refine sk_tail (st := SortSt.mk' general' (keys.zip vs.toArray) #[] 7 none) F N hka hnk hna hsz h64 (Array.Perm.refl _) ?_ rfl h
    intro i j hij hj
    have hj2 : j < (keys.zip vs.toArray).size := hj
    rw [hzs] at hj2
    rw [List.size_toArray] at h2
    have : i = j := by omega
    subst this
    exact KeyOrd.kle_refl _
  · rw [if_neg h2, if_neg h2]
    rw [List.size_toArray] at h2
    have hkind : keyKind' keys = pure oneType' := by
      obtain ⟨v₁, v₂, rest, e⟩ : ∃ v₁ v₂ rest, keys.toList = v₁ :: v₂ :: rest := by
        have hl : 2 ≤ keys.toList.length := by rw [Array.length_toList, hsz]; omega
        cases q : keys.toList with
        | nil => rw [q] at hl; simp at hl
        | cons v₁ r =>
          cases r with
          | nil => rw [q] at hl; simp at hl
          | cons v₂ rest => exact ⟨v₁, v₂, rest, rfl⟩
      have ek : keys = (v₁ :: v₂ :: rest).toArray := by rw [← e, Array.toArray_toList]
      rw [e] at hk
      rw [ek]
      exact keyKind_strs hk
    rw [hkind]
    have hkeys : KeysOf strKind (keys.zip vs.toArray) := by
      intro p hp
      rw [ksk_zip] at hp
      obtain ⟨x, y⟩ := p
      obtain ⟨z, t, rfl⟩ := hk.all x (List.of_mem_zip hp).1
      exact ⟨z.cps.toList, rfl⟩
    refine wpAny_bind (wpAny_pure ?_)
    refine wpAny_bind (wpAny_mono (wpS_sortRunsK (κ := strKind) strKind_oneLt (a₀ := keys.zip vs.toArray) (st := SortSt.mk' oneType' (keys.zip vs.toArray) #[] 7 none)
      (Q := fun _ st' => (arrOf st').Perm (keys.zip vs.toArray) ∧ failedOf st' = none ∧ SortedToK strKind (arrOf st') (keys.zip vs.toArray).size)
      hkeys ⟨Array.Perm.refl _, rfl, rfl, rfl⟩ (by rw [hzs]; omega) (by rw [hzs]; exact h64) fun st' a1 a2 a3 => ⟨a1, a2, a3⟩) ?_ fun _ _ e => e)
    rintro ⟨⟨⟩, st'⟩ s' ⟨rfl, hp, hf, hs⟩
    try dsimp only
    exact sk_tail F N hka hnk hna hsz h64 hp (by rw [hp.size_eq]; exact hs) hf h
theorem strs_snoc' {vs : List Value} {ss : List Str} (h : StrsAre vs ss) (c : Str) (t : Tok) : StrsAre (vs ++ [.str c t]) (ss ++ [c]) := by
  induction h with
  | nil => exact .cons _ _ .nil
  | cons x u _ ih => exact .cons _ _ ih
theorem sk_rest {f : Value} (F : Fr h₀ L s.heap m) (N : News h₀ L s.heap (news ++ [(kS, seqObj "list" #[] 0), (a, seqObj "list" #[] e1)])) (hka : kS ≠ a) (hnk : ∀ p ∈ news, p.1 ≠ kS) (hna : ∀ p ∈ news, p.1 ≠ a)
    (hlen : ss.length = vs.length) (h64 : vs.length < 64)
    (turn : ∀ (i : Nat) (v : Value) (k : Str), vs[i]? = some v → ss[i]? = some k → ∀ (h : Heap) (tk : Nat), Fr h₀ L h m → News h₀ L h news →
      wpAny (model prog w) A (call f [v]) (Left { s with heap := h, toks := tk } fun y _ => ∃ t, y = .str k t) (fun _ _ => False) { s with heap := h, toks := tk })
    (h : ∀ h' tk out c keys, Fr h₀ L h' m → News h₀ L h' ((a, seqObj "list" out c) :: news) → StrsAre keys ss → SortedBy keys vs out.toList → P (.done (.ret .none)) { s with heap := h', toks := tk }) :
    wpAny (model prog w) A (ksk_rest a f false vs.toArray e1 (.ref kS)) P E s := by
  unfold ksk_rest
  refine wpAny_bind (wpAny_rule ?_)
  first
    | rw [List.forIn_toArray]
    | (rw [← Array.forIn_toList]; simp only [List.toList_toArray])
    | rw [← Array.forIn_toList]
  refine wpAny_bind (ksk_fold (fun i s' => ∃ h' tk kA e, s' = { s with heap := h', toks := tk } ∧ Fr h₀ L h' m ∧ News h₀ L h' (news ++ [(kS, seqObj "list" kA e), (a, seqObj "list" #[] e1)]) ∧ StrsAre kA.toList (ss.take i)) vs 0 s
    ⟨s.heap, s.toks, #[], 0, rfl, F, N, by simpa using StrsAre.nil⟩ ?step ?done)
  case step =>
    rintro j x s' hx ⟨h', tk, kA, e, rfl, F', N', hk⟩
    simp only [Nat.zero_add] at hk ⊢
    have hj : j < vs.length := (List.getElem?_eq_some_iff.mp hx).1
    obtain ⟨k, hkj⟩ : ∃ k, ss[j]? = some k := ⟨_, List.getElem?_eq_getElem (by omega)⟩
    have hz : kA.size ≤ vs.length := by
      have h1 := hk.length
      rw [Array.length_toList, List.length_take] at h1
      omega
    refine wpAny_bind (wpAny_attempt (wpAny_mono (turn j x k hx hkj h' tk F' (fun p hp => N' p (List.mem_append_left _ hp))) (fun v s'' he => ?_) fun _ _ hF => hF.elim))
    obtain ⟨g, tk2, rfl, kp, t2, rfl⟩ := he
    have F2 := fr_keeps F' kp
    have N2 := news_keeps N' kp
    try dsimp only
    have nk := N2 (kS, seqObj "list" kA e) (List.mem_append_right _ (.head _))
    have na := N2 (a, seqObj "list" #[] e1) (List.mem_append_right _ (.tail _ (.head _)))
    have s1 := Heap.SameBut.update g kS (Obj.mapSeq (·.push (.str k t2)))
    obtain ⟨c2, hc2⟩ : ∃ c2, (g.update kS (Obj.mapSeq (·.push (.str k t2)))).get? kS = some (seqObj "list" (kA.push (.str k t2)) c2) := ⟨_, get?_update_seq nk.1 (·.push (.str k t2))⟩
    have ek : ss.take (j + 1) = ss.take j ++ [k] := by rw [List.take_add_one, hkj]; simp
    have ea : (kA.push (Value.str k t2)).toList = kA.toList ++ [Value.str k t2] := by simp
    refine wpAny_bind (listUpdate_at nk.1 rfl ?_ (by rw [sizeLine_eq]; omega) (Nat.le_trans (Nat.le_of_eq (Array.size_push ..)) (by rw [sizeLine_eq]; omega)))
    refine wpAny_pure ⟨rfl, _, _, kA.push (.str k t2), c2, rfl, ksk_fr F2 s1 nk.2.1 nk.2.2, fun p hp => ?_, by rw [ea, ek]; exact strs_snoc' hk _ _⟩
    rcases List.mem_append.mp hp with hp | hp
    · exact ksk_news (fun q hq => N2 q (List.mem_append_left _ hq)) s1 hnk p hp
    · rcases List.mem_cons.mp hp with rfl | hp
      · exact ⟨hc2, nk.2⟩
      · rw [List.mem_singleton.mp hp]
        exact ⟨(s1.2 a hka.symm).trans na.1, na.2⟩
  case done =>
    rintro s' ⟨h', tk, kA, e, rfl, F', N', hk⟩
    have hk' : StrsAre kA.toList ss := by
      have e3 : ss.take (0 + vs.length) = ss := List.take_of_length_le (by omega)
      rw [e3] at hk
      exact hk
    have nk := N' (kS, seqObj "list" kA e) (List.mem_append_right _ (.head _))
    try dsimp only
    refine wpAny_bind (listItems_at nk.1 rfl ?_)
    have hsz : kA.size = vs.length := by
      have := hk'.length
      rw [Array.length_toList] at this
      omega
    exact sk_end F' N' hka hnk hna hk' hsz h64 fun h3 tk3 out c F3 N3 k3 => h h3 tk3 out c _ F3 N3 hk' k3
theorem sk_sort {f : Value} {n : Nat} (F : Fr h₀ L s.heap m) (N : News h₀ L s.heap news) (ho : s.heap.get? a = some (seqObj "list" vs.toArray n)) (haL : a ≠ L) (ha0 : h₀.get? a = none) (hna : ∀ p ∈ news, p.1 ≠ a)
    (hlen : ss.length = vs.length) (h64 : vs.length < 64)
    (turn : ∀ (i : Nat) (v : Value) (k : Str), vs[i]? = some v → ss[i]? = some k → ∀ (h : Heap) (tk : Nat), Fr h₀ L h m → News h₀ L h news →
      wpAny (model prog w) A (call f [v]) (Left { s with heap := h, toks := tk } fun y _ => ∃ t, y = .str k t) (fun _ _ => False) { s with heap := h, toks := tk })
    (h : ∀ h' tk out c keys, Fr h₀ L h' m → News h₀ L h' ((a, seqObj "list" out c) :: news) → StrsAre keys ss → SortedBy keys vs out.toList → P (.done (.ret .none)) { s with heap := h', toks := tk }) :
    wpAny (model prog w) A (ksk_tree a f false) P E s := by
  have ha : a < s.heap.objs.size := Heap.lt_size ho
  have s1 := Heap.SameBut.update s.heap a (Obj.mapSeq fun _ => (#[] : Array Value))
  obtain ⟨e1, ho1⟩ : ∃ e1, (s.heap.update a (Obj.mapSeq fun _ => (#[] : Array Value))).get? a = some (seqObj "list" #[] e1) := ⟨_, get?_update_seq ho fun _ => #[]⟩
  have F1 := ksk_fr F s1 haL ha0
  have N1 := ksk_news N s1 hna
  have hkS : ((s.heap.update a (Obj.mapSeq fun _ => (#[] : Array Value))).push (seqObj "tuple" vs.toArray 0)).objs.size = s.heap.objs.size + 1 := by rw [size_push', Heap.size_update]
  have hLk : L < ((s.heap.update a (Obj.mapSeq fun _ => (#[] : Array Value))).push (seqObj "tuple" vs.toArray 0)).objs.size := (F1.push _).ns.lt
  unfold ksk_tree
  refine wpAny_bind (listItems_at ho rfl ?_)
  refine wpAny_bind (listUpdate_at ho rfl ?_ (by rw [List.size_toArray, sizeLine_eq]; omega) (Nat.zero_le _))
  refine wpAny_bind (seqEpoch_at ho1 rfl ?_)
  refine wpAny_bind (wpAny_newTuple ?_ (by show vs.length ≤ _; rw [sizeLine_eq]; omega))
  refine wpAny_bind (wpAny_newList ?_ (Nat.zero_le _))
  refine wpAny_holding ?_
  refine sk_rest (s := { s with heap := ((s.heap.update a (Obj.mapSeq fun _ => (#[] : Array Value))).push (seqObj "tuple" vs.toArray 0)).push (seqObj "list" #[] 0) }) (kS := ((s.heap.update a (Obj.mapSeq fun _ => (#[] : Array Value))).push (seqObj "tuple" vs.toArray 0)).objs.size)
    ((F1.push _).push _) (fun p hp => ?_) (by rw [hkS]; exact Nat.ne_of_gt (Nat.lt_succ_of_lt ha)) (fun p hp => by rw [hkS]; exact Nat.ne_of_lt (Nat.lt_succ_of_lt (Heap.lt_size (N p hp).1))) hna hlen h64 turn h
  rcases List.mem_append.mp hp with hp | hp
  · exact ⟨Heap.get?_push_of_some _ (Heap.get?_push_of_some _ (N1 p hp).1), (N1 p hp).2⟩
  · rcases List.mem_cons.mp hp with rfl | hp
    · exact ⟨Heap.get?_push_size _ rfl, Nat.ne_of_gt hLk, Heap.get?_none_of_le (Nat.le_trans F.above (Nat.le_of_lt hLk))⟩
    · rw [List.mem_singleton.mp hp]
      exact ⟨Heap.get?_push_of_some _ (Heap.get?_push_of_some _ ho1), haL, ha0⟩
end
end Mine
end
section
open PySem PySem.W PyProof.Rows PySem.Calls
set_option maxRecDepth 100000
set_option maxHeartbeats 4000000
namespace Mine
section
variable {prog : Program} {w : World} {A : Around} {E : Value → Shared → Prop} {s : Shared} {h₀ : Heap} {L : Addr} {m : Str → Option Value} {news : List (Addr × Obj)} {Q : Value → Shared → Prop}
theorem sorted_pull {keys vs out : List Value} {ss : List Str} {ns : List Int} {kf : Int → Str} (hk : StrsAre keys ss) (hv : IntsAre vs ns) (hs : ss = ns.map kf) (h : SortedBy keys vs out) :
    ∃ os, IntsAre out os ∧ os.Perm ns ∧ os.Pairwise (fun x y => ¬ (kf y).cps.toList < (kf x).cps.toList) := by
  obtain ⟨xs, hp, hsrt, rfl⟩ := h
  have hrel : ∀ p ∈ keys.zip vs, ∃ n t u, n ∈ ns ∧ p = (.str (kf n) t, .int n u) := by
    clear hp
    subst hs
    induction hv generalizing keys with
    | nil => intro p hp; simp at hp
    | cons n u hv ih =>
      rw [List.map_cons] at hk
      cases hk with
      | cons x t hk =>
        intro p hp
        rw [List.zip_cons_cons] at hp
        rcases List.mem_cons.mp hp with rfl | hp
        · exact ⟨n, t, u, List.mem_cons_self .., rfl⟩
        · obtain ⟨n', t', u', hn, e⟩ := ih hk p hp
          exact ⟨n', t', u', List.mem_cons_of_mem _ hn, e⟩
  have hmem : ∀ p ∈ xs.toList, ∃ n t u, n ∈ ns ∧ p = (.str (kf n) t, .int n u) := fun p h => hrel p (hp.mem_iff.mp h)
  refine ⟨xs.toList.map fun p => numOf p.2, ?_, ?_, ?_⟩
  · have := intsAre_map (xs.toList.map Prod.snd) fun v hv => by
      obtain ⟨p, hp', rfl⟩ := List.mem_map.mp hv
      obtain ⟨n, t, u, _, rfl⟩ := hmem p hp'
      exact ⟨n, u, rfl⟩
    rwa [List.map_map] at this
  · have h1 := hp.map (fun p => numOf p.2)
    have h2 : (keys.zip vs).map (fun p => numOf p.2) = ns := by
      have hl : vs.length ≤ keys.length := by
        have e1 := hk.length
        have e2 := hv.length
        rw [hs, List.length_map] at e1
        omega
      have : (keys.zip vs).map (fun p => numOf p.2) = ((keys.zip vs).map Prod.snd).map numOf := by rw [List.map_map]; rfl
      rw [this, List.map_snd_zip hl, hv.nums]
    rwa [h2] at h1
  · rw [List.pairwise_iff_getElem]
    intro i j hi hj hij
    have hi' : i < xs.size := by simpa using hi
    have hj' : j < xs.size := by simpa using hj
    have h1 := hsrt i j (Nat.le_of_lt hij) hj'
    obtain ⟨n, t, u, _, ei⟩ := hmem xs[i] (by simp)
    obtain ⟨n', t', u', _, ej⟩ := hmem xs[j] (by simp)
    rw [KK_str hi' ei, KK_str hj' ej] at h1
    change decide ((kf n').cps.toList < (kf n).cps.toList) = false at h1
    simp only [List.getElem_map, Array.getElem_toList, ei, ej]
    exact of_decide_eq_false h1
theorem ints_range {n : Nat} {a : Int} {xs : List Value} (hl : xs.length = n) (h : ∀ (i : Nat) x, xs[i]? = some x → ∃ t, x = Value.int (a + i) t) : IntsAre xs ((List.range n).map fun (i : Nat) => a + (i : Int)) := by
  refine ints_of (by simpa using hl) fun i y hy => ?_
  obtain ⟨t, rfl⟩ := h i y hy
  have : i < n := by rw [← hl]; exact (List.getElem?_eq_some_iff.mp hy).1
  exact ⟨t, by simp [this]⟩
theorem sorted_range {r q : Addr} {a b : Int} {t u v : Tok} {n : Nat} (kf : Int → Str) (hh : A.handled = none) (F : Fr h₀ L s.heap m) (N : News h₀ L s.heap news) (hr : IsRange s.heap r a b 1 t u v) (hsm : Builtin.Range.small a b 1 = true)
    (hn : Builtin.Range.rangeSize a b 1 = (n : Int)) (hlen : n < 64)
    (turn : ∀ k t h tk, a ≤ k → k < a + n → Fr h₀ L h m → News h₀ L h news → wpAny (model prog w) A.in1.in1 (call (.ref q) [.int k t]) (Left { s with heap := h, toks := tk } fun y _ => ∃ t, y = .str (kf k) t) (fun _ _ => False) { s with heap := h, toks := tk })
    (done : ∀ D ys os c h' tk, Fr h₀ L h' m → News h₀ L h' ((D, W.listOf ys.toArray c) :: news) → (∀ p ∈ news, p.1 < D) → IntsAre ys os → os.Perm ((List.range n).map fun (i : Nat) => a + (i : Int)) →
      os.Pairwise (fun x y => ¬ (kf y).cps.toList < (kf x).cps.toList) → Q (.ref D) { s with heap := h', toks := tk }) :
    wpAny (model prog w) A (call (.builtin "sorted") [.ref r] [(Str.ofString "key", .ref q)]) Q E s := by
  refine call_function_entry_kw kind_sorted plain_sorted entry_sorted (ksk_s1 _ _) ?_
  unfold Builtin.«sorted»
  refine wpAny_bind (m := checkCount "sorted" 1 1 _) (wpAny_pure ?_)
  refine wpAny_bind (collect_range (A := A.in1) hh hr hsm hn (by omega) fun h₁ tk₁ xs kp hl hx => ?_)
  refine wpAny_bind (wpAny_newList ?_ (by rw [hl, sizeLine_eq]; omega))
  have F₁ := fr_keeps F kp
  have N₁ := news_keeps N kp
  have hoL : (h₁.push (seqObj "list" xs.toArray 0)).get? h₁.objs.size = some (seqObj "list" xs.toArray 0) := Heap.get?_push_size _ rfl
  have keep : Keeps h₁ (h₁.push (seqObj "list" xs.toArray 0)) := fun b o e => Heap.get?_push_of_some _ e
  have hL : L < h₁.objs.size := F₁.ns.lt
  have hi := ints_range hl hx
  refine wpAny_bind (wpAny_holding (wpAny_call_entry_kw slot_list_sort ⟨_, hoL, rfl⟩ entry_list_sort ?body (ksk_l1 _ _)))
  case body =>
    show wpAny (model prog w) A.in1.in1 (Builtin.«list.sort» ⟨[.ref h₁.objs.size], [(Str.ofString "key", .ref q)]⟩) _ _ _
    rw [ksk_t1]
    refine sk_sort (s := { s with heap := h₁.push (seqObj "list" xs.toArray 0), toks := tk₁ }) (ss := ((List.range n).map fun (i : Nat) => a + (i : Int)).map kf)
      (fr_keeps F₁ keep) (news_keeps N₁ keep) hoL (Nat.ne_of_gt hL) (Heap.get?_none_of_le (Nat.le_trans F.above (Nat.le_of_lt hL)))
      (fun p hp => Nat.ne_of_lt (Heap.lt_size (N₁ p hp).1)) (by simp [hl]) (by omega) (fun i v k hv hk h tk F' N' => ?_) fun h' tk out c keys F' N' hK hS => ⟨_, rfl, ?_⟩
    · obtain ⟨t', rfl⟩ := hx i v hv
      have hin : i < n := by rw [← hl]; exact (List.getElem?_eq_some_iff.mp hv).1
      have : k = kf (a + (i : Int)) := by
        rw [List.getElem?_map, List.getElem?_map, List.getElem?_range hin] at hk
        exact (Option.some.inj hk).symm
      subst this
      exact turn _ t' h tk (by omega) (by omega) F' N'
    · obtain ⟨os, h1, h2, h3⟩ := sorted_pull hK hi rfl hS
      exact wpAny_pure ⟨_, rfl, done _ out.toList os c h' tk F' N' (fun p hp => Heap.lt_size (N₁ p hp).1) h1 h2 h3⟩
end
end Mine
end
section
open PySem PySem.W PyProof.Rows PySem.Calls
namespace Mine
theorem strs_get {vs : List Value} {ss : List Str} (h : StrsAre vs ss) : ∀ {i : Nat} {x : Str}, ss[i]? = some x → ∃ t, vs[i]? = some (.str x t) := by
  induction h with
  | nil => intro i x hx; simp at hx
  | cons y t _ ih =>
    intro i x hx
    cases i with
    | zero => cases hx; exact ⟨t, rfl⟩
    | succ i => exact ih hx
/-- an index that lies in a list -/
structure At (k : Int) (n : Nat) : Prop where
  lo : 0 ≤ k
  hi : k < n
section
variable {prog : Program} {w : World} {A : Around} {E : Value → Shared → Prop} {h : Heap} {g : Array GenState} {d : Drawn} {tk : Nat} {o : OsState} {value slice : Expr} {l : Addr} {vs : List Value} {k : Int} {u : Tok} {Q : Value → Shared → Prop}
theorem sub_at {x : Value} (hl : h.IsList l vs.toArray) (h0 : 0 ≤ k) (h1 : k < 2 ^ 63) (hx : vs[k.toNat]? = some x) (H : Q x ⟨h, g, d, tk, o⟩)
    (hs : subscripted slice false (.ref l) (.int k u) = operate [.ref l, .int k u] (getItem (.ref l) (.int k u)) := by with_unfolding_all rfl) :
    wpAny (model prog w) A (subscriptTail value slice (.ref l) (.int k u)) Q E ⟨h, g, d, tk, o⟩ :=
  tail_any hl.typeIs slot_list_getitem.lookup (wpAny_getItem_list hl h0 h1 (by simpa using hx) H) hs
theorem sub_strs {ns : List Int} {f : Int → Str} (hl : h.IsList l vs.toArray) (hS : StrsAre vs (ns.map f)) (hn : ns.length ≤ 64) (hk : At k ns.length) (H : ∀ t, Q (.str (f (ns.getD k.toNat 0)) t) ⟨h, g, d, tk, o⟩)
    (hs : subscripted slice false (.ref l) (.int k u) = operate [.ref l, .int k u] (getItem (.ref l) (.int k u)) := by with_unfolding_all rfl) :
    wpAny (model prog w) A (subscriptTail value slice (.ref l) (.int k u)) Q E ⟨h, g, d, tk, o⟩ := by
  have hi : k.toNat < ns.length := by have := hk.lo; have := hk.hi; omega
  obtain ⟨t, ht⟩ := strs_get hS (i := k.toNat) (x := f (ns.getD k.toNat 0)) (by simp [hi])
  exact sub_at hl hk.lo (by have := hk.hi; omega) ht (H t) hs
theorem sub_ints {ns : List Int} (hl : h.IsList l vs.toArray) (hS : IntsAre vs ns) (hn : ns.length ≤ 64) (hk : At k ns.length) (H : ∀ t, Q (.int (ns.getD k.toNat 0) t) ⟨h, g, d, tk, o⟩)
    (hs : subscripted slice false (.ref l) (.int k u) = operate [.ref l, .int k u] (getItem (.ref l) (.int k u)) := by with_unfolding_all rfl) :
    wpAny (model prog w) A (subscriptTail value slice (.ref l) (.int k u)) Q E ⟨h, g, d, tk, o⟩ := by
  have hi : k.toNat < ns.length := by have := hk.lo; have := hk.hi; omega
  obtain ⟨t, ht⟩ := hS.get k.toNat (ns.getD k.toNat 0) (by simp [hi])
  exact sub_at hl hk.lo (by have := hk.hi; omega) ht (H t) hs
end
noncomputable abbrev rangeObj (a b : Int) (t u v : Tok) : Obj := { cls := .type "range", data := .fields #[.int a t, .int b u, .int 1 v] }
section
variable {prog : Program} {w : World} {A : Around} {E : Value → Shared → Prop} {h : Heap} {g : Array GenState} {d : Drawn} {tk : Nat} {o : OsState} {h₀ : Heap} {L : Addr} {m : Str → Option Value} {news : List (Addr × Obj)} {Q : Value → Shared → Prop}
theorem push_news {ob : Obj} (F : Fr h₀ L h m) (N : News h₀ L h news) (hc : Obj.isFreed ob = false) : Fr h₀ L (h.push ob) m ∧ News h₀ L (h.push ob) ((h.objs.size, ob) :: news) ∧ ∀ p ∈ news, p.1 < h.objs.size := by
  refine ⟨F.push _, fun p hp => ?_, fun p hp => Heap.lt_size (N p hp).1⟩
  rcases List.mem_cons.mp hp with rfl | hp
  · exact ⟨Heap.get?_push_size _ hc, Nat.ne_of_gt F.ns.lt, Heap.get?_none_of_le (Nat.le_trans F.above (Nat.le_of_lt F.ns.lt))⟩
  · exact ⟨Heap.get?_push_of_some _ (N p hp).1, (N p hp).2⟩
theorem range1_c {n : Int} {t : Tok} (F : Fr h₀ L h m) (N : News h₀ L h news) (H : ∀ r h' t u v k', Fr h₀ L h' m → News h₀ L h' ((r, rangeObj 0 n t u v) :: news) → (∀ p ∈ news, p.1 < r) → Q (.ref r) ⟨h', g, d, k', o⟩) :
    wpAny (model prog w) A (call (.type "range") [.int n t]) Q E ⟨h, g, d, tk, o⟩ := by
  refine call_range_1 ?_
  obtain ⟨a, b, c⟩ := push_news (ob := rangeObj 0 n tk t (tk + 1)) F N rfl
  exact H _ _ _ _ _ _ a b c
theorem range2_c {a n : Int} {t u : Tok} (F : Fr h₀ L h m) (N : News h₀ L h news) (H : ∀ r h' t u v k', Fr h₀ L h' m → News h₀ L h' ((r, rangeObj a n t u v) :: news) → (∀ p ∈ news, p.1 < r) → Q (.ref r) ⟨h', g, d, k', o⟩) :
    wpAny (model prog w) A (call (.type "range") [.int a t, .int n u]) Q E ⟨h, g, d, tk, o⟩ := by
  refine call_range_2 ?_
  obtain ⟨x, b, c⟩ := push_news (ob := rangeObj a n t u tk) F N rfl
  exact H _ _ _ _ _ _ x b c
end
theorem len_led {prog : Program} {w : World} {A : Around} {E : Value → Shared → Prop} {h : Heap} {g : Array GenState} {d : Drawn} {tk : Nat} {o : OsState} {h₀ : Heap} {L D : Addr} {news : List (Addr × Obj)} {Q : Value → Shared → Prop} {vs : List Value} {c n : Nat} (N : News h₀ L h news) (hm : (D, W.listOf vs.toArray c) ∈ news) (hn : vs.length = n) (hz : n ≤ 64)
    (H : ∀ t' k', Q (.int (n : Int) t') ⟨h, g, d, k', o⟩) : wpAny (model prog w) A (call (.builtin "len") [.ref D]) Q E ⟨h, g, d, tk, o⟩ := by
  have e : vs.toArray.size = n := by simpa using hn
  refine len_list (items := vs.toArray) ⟨_, (N _ hm).1, rfl, _, rfl⟩ (by omega) ?_
  rw [e]
  exact H _ _
theorem range_of {h₀ h : Heap} {L r : Addr} {news : List (Addr × Obj)} {a b : Int} {t u v : Tok} (N : News h₀ L h news) (hm : (r, rangeObj a b t u v) ∈ news) : IsRange h r a b 1 t u v := (N _ hm).1
theorem range_small {n : Nat} (h : n ≤ 64) : Builtin.Range.small 0 n 1 = true := small_one (by omega) (by omega) (by omega) (by omega)
theorem range_size (n : Nat) : Builtin.Range.rangeSize 0 n 1 = (n : Int) := by rw [rangeSize_nat]; omega
theorem range_small1 {n : Nat} (h : n ≤ 64) : Builtin.Range.small 1 n 1 = true := small_one (by omega) (by omega) (by omega) (by omega)
theorem range_size1 (n : Nat) : Builtin.Range.rangeSize 1 n 1 = ((n - 1 : Nat) : Int) := by rw [rangeSize_nat]; omega
theorem perm_range {os : List Int} {n : Nat} (h : os.Perm ((List.range n).map fun (i : Nat) => (0 : Int) + (i : Int))) : os.length = n ∧ ∀ k ∈ os, At k n := by
  refine ⟨by rw [h.length_eq]; simp, fun k hk => ?_⟩
  have := h.mem_iff.mp hk
  obtain ⟨i, hi, rfl⟩ := List.mem_map.mp this
  have hi' := List.mem_range.mp hi
  exact ⟨by omega, by omega⟩
theorem getD_mem {os : List Int} {k : Int} (h : At k os.length) : os.getD k.toNat 0 ∈ os := by
  have hi : k.toNat < os.length := by have := h.lo; have := h.hi; omega
  simp [hi]
theorem cmp_lt {a b : Str} (h : a.cps.toList < b.cps.toList) : cmpL a b = -1 := by
  unfold cmpL
  rw [decide_eq_true h, decide_eq_false (List.lt_asymm h)]
  rfl
theorem nodup_inj {α : Type} {l : List α} (hn : l.Nodup) {i j : Nat} {hi : i < l.length} {hj : j < l.length} (h : l[i] = l[j]) : i = j := by
  rcases Nat.lt_trichotomy i j with hlt | he | hlt
  · exact absurd h (List.pairwise_iff_getElem.mp hn i j hi hj hlt)
  · exact he
  · exact absurd h.symm (List.pairwise_iff_getElem.mp hn j i hj hi hlt)
/-- of two neighbours in the order the first is the less -/
theorem strict_at {ms os : List Int} {k : Int} (hp : os.Perm ((List.range ms.length).map fun (i : Nat) => (0 : Int) + (i : Int))) (ho : os.Pairwise (fun x y => ¬ (look (ms.getD y.toNat 0)).cps.toList < (look (ms.getD x.toNat 0)).cps.toList))
    (hnd : (ms.map look).Nodup) (h1 : 1 ≤ k) (h2 : k < os.length) : cmpL (look (ms.getD (os.getD (k - 1).toNat 0).toNat 0)) (look (ms.getD (os.getD k.toNat 0).toNat 0)) = -1 := by
  obtain ⟨hl, hall⟩ := perm_range hp
  have hi : (k - 1).toNat < os.length := by omega
  have hj : k.toNat < os.length := by omega
  have hlt : (k - 1).toNat < k.toNat := by omega
  have e1 : os.getD (k - 1).toNat 0 = os[(k - 1).toNat] := by rw [List.getD_eq_getElem?_getD, List.getElem?_eq_getElem hi]; rfl
  have e2 : os.getD k.toNat 0 = os[k.toNat] := by rw [List.getD_eq_getElem?_getD, List.getElem?_eq_getElem hj]; rfl
  have hn : os.Nodup := hp.nodup_iff.mpr (by
    show List.Pairwise _ _
    rw [List.pairwise_map]
    exact List.Pairwise.imp (fun {a b} hab => by omega) List.nodup_range)
  have hne : os[(k - 1).toNat] ≠ os[k.toNat] := fun e => by
    have := nodup_inj hn e
    omega
  have ba := hall _ (List.getElem_mem hi)
  have bb := hall _ (List.getElem_mem hj)
  have hq := List.pairwise_iff_getElem.mp ho _ _ hi hj hlt
  rw [e1, e2]
  generalize os[(k - 1).toNat] = x at hne ba hq
  generalize os[k.toNat] = y at hne bb hq
  apply cmp_lt
  refine Decidable.byContradiction fun hc => ?_
  have he : (look (ms.getD x.toNat 0)).cps.toList = (look (ms.getD y.toNat 0)).cps.toList := List.le_antisymm (List.not_lt.mp hq) (List.not_lt.mp hc)
  have he' : look (ms.getD x.toNat 0) = look (ms.getD y.toNat 0) := Str.ext' (Array.toList_inj.mp he)
  have hx : x.toNat < ms.length := by have := ba.lo; have := ba.hi; omega
  have hy : y.toNat < ms.length := by have := bb.lo; have := bb.hi; omega
  have h3 : (ms.map look)[x.toNat]'(by simpa using hx) = (ms.map look)[y.toNat]'(by simpa using hy) := by simpa [hx, hy] using he'
  have := nodup_inj hnd h3
  have := ba.lo
  have := bb.lo
  omega
theorem below_in1 {A : Around} {base h : Heap} {outer : List Env} (B : Below A base outer h) : Below A.in1 base outer h := ⟨B.stack, B.stays, B.frames⟩
theorem cell_of {h₀ h : Heap} {L c : Addr} {news : List (Addr × Obj)} {o : Obj} {v : Option Value} (N : News h₀ L h news) (hm : (c, o) ∈ news) (hd : o.data = .cell v) : h.IsCell c v := ⟨o, (N _ hm).1, hd⟩
theorem list_of {h₀ h : Heap} {L c : Addr} {news : List (Addr × Obj)} {vs : List Value} {n : Nat} (N : News h₀ L h news) (hm : (c, ({ cls := .type "list", data := .seq vs.toArray n } : Obj)) ∈ news) : h.IsList c vs.toArray := ⟨_, (N _ hm).1, rfl, _, rfl⟩
theorem rec_of {h₀ h : Heap} {L c : Addr} {news : List (Addr × Obj)} {o : Obj} {vs : Array Value} {q : Str} {t : Tok} (N : News h₀ L h news) (hm : (c, o) ∈ news) (h1 : o.data = .fields vs) (h2 : vs[1]? = some (.str q t)) : h.CodeRec (.ref c) q := ⟨c, o, vs, t, rfl, (N _ hm).1, h1, h2⟩
end Mine
end
section
open PySem PySem.W PyProof.Rows PySem.Calls
namespace Mine
set_option pp.deepTerms false
set_option pp.maxSteps 3000
set_option maxRecDepth 100000

theorem lines1_Fits : True := by
  w_top off
  k_with_none
  k_with "eval Constant int" => ((with_reducible refine const_c ?_; intro _ _; (try dsimp only)))
  k_with "binaryOp Add int int" => ((with_reducible refine add_c ?_; intro _ _; (try dsimp only)))
  k_with "binaryOp Sub int int" => ((with_reducible refine sub_c ?_; intro _ _; (try dsimp only)))
  k_with "binaryOp BitAnd int int" => ((with_reducible refine and_c ?_; intro _ _; (try dsimp only)))
  k_with "binaryOp BitOr int int" => ((with_reducible refine or_c ?_; intro _ _; (try dsimp only)))
  k_with "binaryOp BitXor int int" => ((with_reducible refine xor_c ?_; intro _ _; (try dsimp only)))
  k_with "binaryOp Mod int int" => ((with_reducible refine mod_c (by decide) ?_; intro _ _; (try dsimp only)))
  k_with "binaryOp FloorDiv int int" => ((with_reducible refine div_c (by decide) (by decide) ?_; intro _ _; (try dsimp only)))
  k_with "binaryOp Mult int int" => ((with_reducible refine mul_c (by constructor <;> omega) (by constructor <;> omega) ?_; intro _ _; (try dsimp only)))
  k_with "binaryOp LShift int int" => ((with_reducible refine shl_c (by constructor <;> omega) (by constructor <;> omega) ?_; intro _ _; (try dsimp only)))
  k_with "binaryOp RShift int int" => ((with_reducible refine shr_c (by omega) ?_; intro _ _; (try dsimp only)))
  k_with "binaryOp Pow int int" => ((with_reducible refine pow_c (by constructor <;> omega) (by constructor <;> omega) ?_; intro _ _; (try dsimp only)))
  k_with "eval BinOp" => ((k_here; k_dflt (refine' ari_c ?k_kw ?F_kw ?A_kw (fun _ _ => ?_); (case k_kw => rfl); (case F_kw => k_asm); (case A_kw => (repeat' (first | with_reducible refine' Ari.bin ?_ ?_ ?_ | with_reducible exact OpIs.add | with_reducible exact OpIs.sub | with_reducible exact OpIs.or | with_reducible refine' OpIs.mod ?_ | with_reducible refine' OpIs.div ?_ | with_reducible refine' OpIs.mul ?_ ?_ | with_reducible refine' OpIs.shl ?_ ?_ | with_reducible refine' OpIs.shr ?_ | with_reducible refine' OpIs.pow ?_ ?_ | with_reducible exact Ari.const | exact Ari.name rfl rfl (by decide) | (show _ ∧ _; first | decide | exact ⟨by omega, by omega⟩) | (show _ < _; first | decide | omega) | (show _ ≤ _; first | decide | omega))))); (try dsimp only)))
  k_with "call ref" => ((k_here; (with_reducible show wpAny _ _ (call (Value.ref 65) [Value.bytes _ _, Value.bytes _ _] _) _ _ _); k_dflt (refine' Fn.use (b64_spec _ _ _ _ _ _ _ (by with_reducible assumption) _ _) ?k1_kw ?k2_kw ?k3_kw ?k4_kw ?k5_kw ?k6_kw ?k7_kw ?k8_kw ?k9_kw ?_; (case k1_kw => k_asm); (case k2_kw => k_asm); (case k3_kw => k_asm); (case k4_kw => k_asm); (case k5_kw => k_asm); (case k6_kw => exact rfl); (case k7_kw => exact rfl); (case k8_kw => omega); (case k9_kw => omega)); intro _ _ _ _ _ _ hP'; obtain ⟨_, _, e', _⟩ := hP'; subst e'; (try dsimp only); (try k_fold)))
  k_with "call ref" => ((k_here; (with_reducible show wpAny _ _ (call (Value.ref 133) [Value.str _ _, Value.str _ _] _) _ _ _); k_dflt (refine' Fn.use (told_spec _ _ _ _ _) ?k1_kw ?k2_kw ?k3_kw ?k4_kw ?k5_kw ?k6_kw ?k7_kw ?k8_kw ?k9_kw ?_; (case k1_kw => k_asm); (case k2_kw => k_asm); (case k3_kw => k_asm); (case k4_kw => k_asm); (case k5_kw => k_asm); (case k6_kw => exact rfl); (case k7_kw => exact rfl); (case k8_kw => omega); (case k9_kw => omega)); intro _ _ _ _ _ _ hP'; obtain ⟨_, e'⟩ := hP'; subst e'; (try dsimp only); (try k_fold)))
  trivial

noncomputable def chrS (c : Int) : Str := ⟨#[c.toNat]⟩
noncomputable def textS (ns : List Int) : Str := ⟨(ns.map Int.toNat).toArray⟩
theorem join_cons (x y : Str) (r : List Str) : Str.join (Str.ofString "") (x :: y :: r) = x ++ Str.ofString "" ++ Str.join (Str.ofString "") (y :: r) := rfl
theorem join_chr : ∀ ns : List Int, Str.join (Str.ofString "") (ns.map chrS) = textS ns
  | [] => rfl
  | [c] => rfl
  | c :: d :: r => by
    have ih := join_chr (d :: r)
    rw [List.map_cons] at ih
    rw [List.map_cons, List.map_cons, join_cons, ih]
    apply Str.ext'
    unfold textS chrS
    simp only [Str.cps_append]
    apply Array.toList_inj.mp
    simp [Str.ofString]
    rfl
theorem join4 {prog : Program} {w : World} {A : Around} {E : Value → Shared → Prop} {h : Heap} {g : Array GenState} {d : Drawn} {tk : Nat} {o : OsState} {h₀ : Heap} {L D : Addr} {ys : List Value} {ns : List Int} {news : List (Addr × Obj)} {t : Tok} {Q : Value → Shared → Prop}
    (N : News h₀ L h ((D, LCg.lst ys) :: news)) (hS : StrsAre ys (ns.map chrS)) (hl : ns.length ≤ 64) (H : ∀ t' k', Q (.str (textS ns) t') ⟨h, g, d, k', o⟩) : wpAny (model prog w) A (call (.builtin "str.join") [.str (Str.ofString "") t, .ref D]) Q E ⟨h, g, d, tk, o⟩ := by
  obtain ⟨l, h1, h2⟩ := strs_vals hS
  refine SC.join (l := l) (texts := ns.map chrS) ?_ h2 (join_ok (fun x hx => ?_) (by simpa using hl)) fun t' k' => ?_
  · rw [h1]
    exact ⟨_, (N _ (List.mem_cons_self ..)).1, rfl, _, rfl⟩
  · obtain ⟨c, _, rfl⟩ := List.mem_map.mp hx
    exact Nat.le_refl 1
  · have : Txt.join (Str.ofString "") (ns.map chrS) = textS ns := (StrLaws.glued_eq_join _ _).trans (join_chr ns)
    rw [this]; exact H t' k'
theorem strs_of {ys : List Value} {ns : List Int} (hl : ys.length = ns.length) (h : ∀ (i : Nat) (y : Value), ys[i]? = some y → ∃ (c : Int) (t : Tok), ns[i]? = some c ∧ y = Value.str (chrS c) t) : StrsAre ys (ns.map chrS) := by
  induction ns generalizing ys with
  | nil => cases ys with
    | nil => exact .nil
    | cons _ _ => simp at hl
  | cons c ns ih => cases ys with
    | nil => simp at hl
    | cons y ys =>
      obtain ⟨c', t, e, rfl⟩ := h 0 y rfl
      cases e
      exact .cons _ _ (ih (by simpa using hl) fun i y hy => h (i + 1) y hy)
section
variable {prog : Program} {w : World} {A : Around} {E : Value → Shared → Prop} {h : Heap} {g : Array GenState} {d : Drawn} {tk : Nat} {o : OsState} {t u : Tok} {Q : Value → Shared → Prop}
theorem bytes3 {h₀ : Heap} {L D : Addr} {m : Str → Option Value} {news : List (Addr × Obj)} {x1 x2 x3 : Int} {t1 t2 t3 : Tok} {n : Nat} (F : Fr h₀ L h m) (N : News h₀ L h news) (hh : A.handled = none)
    (hm : (D, PySem.W.listOf #[.int x1 t1, .int x2 t2, .int x3 t3] n) ∈ news) (b1 : 0 ≤ x1 ∧ x1 < 256) (b2 : 0 ≤ x2 ∧ x2 < 256) (b3 : 0 ≤ x3 ∧ x3 < 256)
    (H : ∀ h' r t' k, Fr h₀ L h' m → News h₀ L h' news → KBw.bInts r = [x1, x2, x3] → Q (.bytes r t') ⟨h', g, d, k, o⟩) : wpAny (model prog w) A (call (.type "bytes") [.ref D]) Q E ⟨h, g, d, tk, o⟩ := by
  have hr : KBa.In [x1, x2, x3] := by
    intro n hn
    simp only [List.mem_cons, List.not_mem_nil, or_false] at hn
    rcases hn with rfl | rfl | rfl
    · exact b1
    · exact b2
    · exact b3
  exact KBa.make_K (vs := [.int x1 t1, .int x2 t2, .int x3 t3]) F N hh ⟨_, N.get hm, rfl, n, rfl⟩ (.cons _ _ (.cons _ _ (.cons _ _ .nil))) hr (by show 3 ≤ 16777216; decide)
    (fun h' t' k F' N' hi => H h' _ t' k F' N' (KBa.ints_make hi))
structure Byte (c : Int) : Prop where
  lo : 0 ≤ c
  hi : c < 256
theorem byte_at {b : Array UInt8} {ns : List Int} (hb : KBw.bInts b = ns) {i : Nat} {c : Int} (h : ns[i]? = some c) : Byte c := by
  have := KBw.ints_in (b := b) (k := c) (by rw [hb]; exact List.mem_of_getElem? h)
  exact ⟨this.1, this.2⟩
theorem chr_c {c : Int} (hc : Byte c) (H : ∀ t' k', Q (.str (chrS c) t') ⟨h, g, d, k', o⟩) : wpAny (model prog w) A (call (.builtin "chr") [.int c t]) Q E ⟨h, g, d, tk, o⟩ := chr_of_range hc.lo (by have := hc.hi; omega) (H _ _)
end
theorem comp_chr {prog : Program} {w : World} {A : Around} {E : Value → Shared → Prop} {h : Heap} {g : Array GenState} {d : Drawn} {tk : Nat} {o : OsState} {h₀ : Heap} {m : Str → Option Value} {env : Env} {elt : Expr} {x : Str} {px : Pos} {scope : Scope} {cl : List (Str × Addr)} {pos : Pos} {news : List (Addr × Obj)} {Q : Value → Shared → Prop}
    {nm : Str} {pn : Pos} {b : Array UInt8} {t : Tok} {ns : List Int} (hh : A.handled = none) (F : Fr h₀ env.locals h m) (N : News h₀ env.locals h news) (hb : KBw.bInts b = ns) (hsz : ns.length ≤ 64)
    (hnm : env.kindOf nm = some .local) (hk : env.scope.kind = .function) (hnd : (nm == ("__debug__" : Str)) = false) (hm : m nm = some (.bytes b t))
    (hclos : closureFor scope env = pure cl) (hcell : ∀ y ∈ scope.names, y.2 ≠ .cell) (hkind : scope.kind = .function)
    (hnames : ∀ y ∈ scope.names, y.2 = .local → scope.names.lookup y.1 = some .local) (hx : scope.names.lookup x = some .local)
    (turn : ∀ (c : Int) u I oI C oC D m₂ ys h tk (E' : Value → Shared → Prop), Byte c → LCg.NsObj oC m₂ → m₂ x = some (.int c u) → Fr h₀ env.locals h m → News h₀ env.locals h ((I, oI) :: (C, oC) :: (D, LCg.lst ys) :: news) →
      wpAny (model prog w) A (eval elt (compEnvC scope cl C env)) (Left ⟨h, g, d, tk, o⟩ fun y _ => ∃ t, y = .str (chrS c) t) E' ⟨h, g, d, tk, o⟩)
    (fin : ∀ (ys : List Value) D h' tk', StrsAre ys (ns.map chrS) → Fr h₀ env.locals h' m → News h₀ env.locals h' ((D, LCg.lst ys) :: news) → Q (.ref D) ⟨h', g, d, tk', o⟩)
    (hs : ∀ x, foldedSetIterable (.Name nm pn) env x = pure x := by intro _; rfl) :
    wpAny (model prog w) A (eval (.ListComp elt [⟨.Name x px, .Name nm pn, [], 0⟩] scope pos) env) Q E ⟨h, g, d, tk, o⟩ :=
  comp_bytes (fun i y => ∃ c t, ns[i]? = some c ∧ y = .str (chrS c) t) hh F N hb hsz hnm hk hnd hm hclos hcell hkind hnames hx
    (fun i c u I oI C oC D m₂ ys h tk E' hc hC hx F' N' => wpAny_mono (turn c u I oI C oC D m₂ ys h tk E' (byte_at hb hc) hC hx F' N') (fun y s' hq => by
      obtain ⟨h', tk', e, k, t, r⟩ := hq
      exact ⟨h', tk', e, k, c, t, hc, r⟩) fun _ _ e => e)
    (fun ys D h' tk' hl hR F' N' => fin ys D h' tk' (strs_of hl hR) F' N') hs
noncomputable def cmpZ (x y : List Int) : Int := b2i (decide (y < x)) - b2i (decide (x < y))
noncomputable def fitsL (c e : UInt8) (ws : List Int) (side n : Int) : Bool := cmpZ [sg c.toNat e.toNat (n / 64), sg c.toNat e.toNat (n % 64)] (ws.map (sg c.toNat e.toNat)) == side
theorem lt_nat : ∀ {x y : List Int}, (∀ i ∈ x, 0 ≤ i) → (∀ i ∈ y, 0 ≤ i) → (x.map Int.toNat < y.map Int.toNat ↔ x < y)
  | _, [], _, _ => by simp
  | [], _ :: _, _, _ => by simp
  | a :: x, b :: y, h1, h2 => by
    have ih := lt_nat (x := x) (y := y) (fun i hi => h1 i (List.mem_cons_of_mem _ hi)) (fun i hi => h2 i (List.mem_cons_of_mem _ hi))
    have ha := h1 a (List.mem_cons_self ..)
    have hb := h2 b (List.mem_cons_self ..)
    rw [List.map_cons, List.map_cons, List.cons_lt_cons_iff, List.cons_lt_cons_iff, ih]
    have e1 : a.toNat < b.toNat ↔ a < b := by omega
    have e2 : a.toNat = b.toNat ↔ a = b := by omega
    rw [e1, e2]
theorem cmp_text {x y : List Int} (hx : ∀ i ∈ x, 0 ≤ i) (hy : ∀ i ∈ y, 0 ≤ i) : cmpL (textS x) (textS y) = cmpZ x y := by
  unfold cmpL cmpZ textS
  simp only [List.toList_toArray, lt_nat hx hy, lt_nat hy hx]
theorem sg_nn (p q : UInt8) (i : Int) : 0 ≤ sg p.toNat q.toNat i := by
  unfold sg
  have := (dig_in i).1
  split
  · omega
  · split
    · omega
    · exact this
theorem nn2 {p q : Int} (hp : 0 ≤ p) (hq : 0 ≤ q) : ∀ i ∈ [p, q], 0 ≤ i := by
  intro i hi
  simp only [List.mem_cons, List.not_mem_nil, or_false] at hi
  rcases hi with rfl | rfl
  · exact hp
  · exact hq
theorem slice_a (p q r s : Int) : Txt.slice (textS [p, q, r, s]) none (some 2) = textS [p, q] := rfl
theorem slice_2 (p q r s : Int) : Txt.slice (textS [p, q, r, s]) (some 2) (some (2 + ((1 + 1 : Nat) : Int))) = textS [r, s] := rfl
theorem slice_1 (p q r s : Int) : Txt.slice (textS [p, q, r, s]) (some 2) (some (2 + ((0 + 1 : Nat) : Int))) = textS [r] := rfl
theorem fv1 (n : Int) : n / 16 / 4 = n / 64 := by rw [Int.ediv_ediv_of_nonneg (by decide)]; rfl
theorem fv2 {n m : Int} (h : 0 ≤ m ∧ m < 4096) : n / 16 % 4 * 16 + (n % 16 * 16 + m / 256) / 16 = n % 64 := by omega
theorem fv3 {n a b : Int} (ha : 0 ≤ a ∧ a < 64) (hb : 0 ≤ b ∧ b < 64) : (n % 16 * 16 + (a * 64 + b) / 256) % 16 * 4 + (a * 64 + b) % 256 / 64 = a := by omega
theorem fv4 {a b : Int} (hb : 0 ≤ b ∧ b < 64) : (a * 64 + b) % 256 % 64 = b := by omega
theorem fvm {a b : Int} (ha : 0 ≤ a ∧ a < 64) (hb : 0 ≤ b ∧ b < 64) : 0 ≤ a * 64 + b ∧ a * 64 + b < 4096 := by omega
theorem fits_val2 {n a b side m : Int} (c e : UInt8) (h0 : 0 ≤ n ∧ n < 4096) (ha : 0 ≤ a ∧ a < 64) (hb : 0 ≤ b ∧ b < 64) (hm : m = a * 64 + b) :
    (cmpL (Txt.slice (textS [sg c.toNat e.toNat (n / 16 / 4), sg c.toNat e.toNat (n / 16 % 4 * 16 + (n % 16 * 16 + m / 256) / 16), sg c.toNat e.toNat ((n % 16 * 16 + m / 256) % 16 * 4 + m % 256 / 64), sg c.toNat e.toNat (m % 256 % 64)]) none (some 2))
      (Txt.slice (textS [sg c.toNat e.toNat (n / 16 / 4), sg c.toNat e.toNat (n / 16 % 4 * 16 + (n % 16 * 16 + m / 256) / 16), sg c.toNat e.toNat ((n % 16 * 16 + m / 256) % 16 * 4 + m % 256 / 64), sg c.toNat e.toNat (m % 256 % 64)]) (some 2) (some (2 + ((1 + 1 : Nat) : Int)))) == side) = fitsL c e [a, b] side n := by
  rw [slice_a, slice_2, cmp_text (nn2 (sg_nn ..) (sg_nn ..)) (nn2 (sg_nn ..) (sg_nn ..))]
  subst hm
  rw [fv1, fv2 (fvm ha hb), fv3 ha hb, fv4 hb]
  rfl
theorem fits_val1 {n a side m : Int} (c e : UInt8) (h0 : 0 ≤ n ∧ n < 4096) (ha : 0 ≤ a ∧ a < 64) (hm : m = a * 64 + 0) :
    (cmpL (Txt.slice (textS [sg c.toNat e.toNat (n / 16 / 4), sg c.toNat e.toNat (n / 16 % 4 * 16 + (n % 16 * 16 + m / 256) / 16), sg c.toNat e.toNat ((n % 16 * 16 + m / 256) % 16 * 4 + m % 256 / 64), sg c.toNat e.toNat (m % 256 % 64)]) none (some 2))
      (Txt.slice (textS [sg c.toNat e.toNat (n / 16 / 4), sg c.toNat e.toNat (n / 16 % 4 * 16 + (n % 16 * 16 + m / 256) / 16), sg c.toNat e.toNat ((n % 16 * 16 + m / 256) % 16 * 4 + m % 256 / 64), sg c.toNat e.toNat (m % 256 % 64)]) (some 2) (some (2 + ((0 + 1 : Nat) : Int)))) == side) = fitsL c e [a] side n := by
  rw [slice_a, slice_1, cmp_text (nn2 (sg_nn ..) (sg_nn ..)) (by intro i hi; rw [List.mem_singleton.mp hi]; exact sg_nn ..)]
  subst hm
  rw [fv1, fv2 (fvm ha (by decide)), fv3 ha (by decide)]
  rfl
theorem lines2_Fits : True := by
  k_with "call type:bytes" => ((k_here; (with_reducible show wpAny _ _ (call (Value.type "bytes") [Value.ref _]) _ _ _); k_dflt (refine' bytes3 ?k1_kw ?k2_kw ?k3_kw ?k4_kw ?b1_kw ?b2_kw ?b3_kw ?_; (case k1_kw => k_asm); (case k2_kw => k_asm); (case k3_kw => exact rfl); (case k4_kw => k_mem); (case b1_kw => (constructor <;> omega)); (case b2_kw => (constructor <;> omega)); (case b3_kw => (constructor <;> omega))); intro _ _ _ _ _ _ _; (try dsimp only)))
  k_with "eval ListComp" => ((k_here; refine hold ?_))
  k_with "call builtin:chr" => ((k_here; k_dflt (refine chr_c (by with_reducible assumption) ?_); intro _ _))
  k_with "call builtin:str.join" => ((k_here; k_dflt (refine join4 (by k_asm) (by with_reducible assumption) (Nat.le_of_ble_eq_true rfl) ?_); intro _ _))
  trivial
inductive LimOk : List Int → Prop
  | one {a : Int} : 0 ≤ a ∧ a < 64 → LimOk [a]
  | two {a b : Int} : 0 ≤ a ∧ a < 64 → 0 ≤ b ∧ b < 64 → LimOk [a, b]
theorem fits_val {n side : Int} {lim : List Int} (hl : LimOk lim) (c e : UInt8) (h0 : 0 ≤ n ∧ n < 4096) :
    (cmpL (Txt.slice (textS [sg c.toNat e.toNat (n / 16 / 4), sg c.toNat e.toNat (n / 16 % 4 * 16 + (n % 16 * 16 + (lim.getD (0 : Int).toNat 0 * 64 + (lim ++ [0]).getD (1 : Int).toNat 0) / 256) / 16), sg c.toNat e.toNat ((n % 16 * 16 + (lim.getD (0 : Int).toNat 0 * 64 + (lim ++ [0]).getD (1 : Int).toNat 0) / 256) % 16 * 4 + (lim.getD (0 : Int).toNat 0 * 64 + (lim ++ [0]).getD (1 : Int).toNat 0) % 256 / 64), sg c.toNat e.toNat ((lim.getD (0 : Int).toNat 0 * 64 + (lim ++ [0]).getD (1 : Int).toNat 0) % 256 % 64)]) none (some 2))
      (Txt.slice (textS [sg c.toNat e.toNat (n / 16 / 4), sg c.toNat e.toNat (n / 16 % 4 * 16 + (n % 16 * 16 + (lim.getD (0 : Int).toNat 0 * 64 + (lim ++ [0]).getD (1 : Int).toNat 0) / 256) / 16), sg c.toNat e.toNat ((n % 16 * 16 + (lim.getD (0 : Int).toNat 0 * 64 + (lim ++ [0]).getD (1 : Int).toNat 0) / 256) % 16 * 4 + (lim.getD (0 : Int).toNat 0 * 64 + (lim ++ [0]).getD (1 : Int).toNat 0) % 256 / 64), sg c.toNat e.toNat ((lim.getD (0 : Int).toNat 0 * 64 + (lim ++ [0]).getD (1 : Int).toNat 0) % 256 % 64)]) (some 2) (some (2 + (lim.length : Int)))) == side) = fitsL c e lim side n := by
  cases hl with
  | one ha => exact fits_val1 c e h0 ha rfl
  | two ha hb => exact fits_val2 c e h0 ha hb rfl
theorem lim_facts {lim : List Int} (hl : LimOk lim) : At 0 lim.length ∧ At 1 (lim ++ [0]).length ∧ lim.length ≤ 64 ∧ (lim ++ [0]).length ≤ 64 ∧ (0 ≤ lim.getD (0 : Int).toNat 0 ∧ lim.getD (0 : Int).toNat 0 < 64) ∧ (0 ≤ (lim ++ [0]).getD (1 : Int).toNat 0 ∧ (lim ++ [0]).getD (1 : Int).toNat 0 < 64) := by
  cases hl with
  | one ha => exact ⟨⟨by decide, show (0 : Int) < 1 from by decide⟩, ⟨by decide, show (1 : Int) < 2 from by decide⟩, show 1 ≤ 64 from by decide, show 2 ≤ 64 from by decide, ha, show (0 : Int) ≤ 0 from by decide, show (0 : Int) < 64 from by decide⟩
  | two ha hb => exact ⟨⟨by decide, show (0 : Int) < 2 from by decide⟩, ⟨by decide, show (1 : Int) < 3 from by decide⟩, show 2 ≤ 64 from by decide, show 3 ≤ 64 from by decide, ha, hb⟩
theorem lines3_Fits : True := by
  k_with "subscriptTail" => ((k_here; (with_reducible show wpAny _ _ (subscriptTail _ _ (Value.ref _) (Value.int _ _)) _ _ _); k_dflt (refine' sub_ints ?h1_kw ?h2_kw ?h3_kw ?h4_kw (fun _ => ?_) ?h5_kw; (case h1_kw => kmk_list); (case h2_kw => with_reducible assumption); (case h3_kw => with_reducible assumption); (case h4_kw => with_reducible assumption); (case h5_kw => with_unfolding_all rfl))))
  trivial
set_option maxRecDepth 100000 in
set_option maxHeartbeats 8000000 in
theorem fits_spec (w : World) (n side : Int) (l : Addr) (c e : UInt8) (t u v : Tok) {ws : List Value} {lim : List Int} (hl : LimOk lim) (hw : IntsAre ws lim) (h0 : 0 ≤ n ∧ n < 4096) :
    FnP w 138 7 [.int n t, .ref l, .bytes #[c, e] u, .int side v] (fun h => h.IsList l ws.toArray) (fun _ v _ => v = .bool (fitsL c e lim side n)) := by
  unfold FnP
  k_fill
  intro p loose mean mg mb base outer dp un gd s Q E B X T hd hu hpre hret
  obtain ⟨hA0, hA1, l64, l64', hb0, hb1⟩ := lim_facts hl
  refine wpAny_call ?_
  k_dflt (refine' enter0 (binds := [(Str.ofString "unlike", .int n t), (Str.ofString "limit", .ref l), (Str.ofString "pair", .bytes #[c, e] u), (Str.ofString "side", .int side v)]) ?k1 ?k3 ?k5 ?k6 ?k7 ?k8 ?k9 ?kB ?_ ?c2 ?c3 ?c4 ?c5; (case k1 => exact B); (case k3 => exact X); (case k5 => exact T); (case k6 => k_is); (case k7 => k_is); (case k8 => ktr_room); (case k9 => exact BindsTo.of_eq rfl); (case c5 => decide); (case kB => exact locs rfl); (case c2 => exact rfl); (case c3 => exact rfl); (case c4 => exact rfl); k_whole; intro L' h' F' N'; (try dsimp only [List.reverse_cons, List.reverse_nil, List.nil_append, List.cons_append] at F'); (try dsimp only); (try k_fold))
  k_steps
  unfold Hold
  dsimp only
  k_dflt (refine' comp_chr ?hh ?F ?N ?hb ?hsz ?hnm ?hk ?hnd ?hm ?hc ?hcell ?hkind ?hnames ?hx (fun c u I oI C oC D m₂ ys h tk E' hB hC hx F' N' => ?turn) (fun ys D h' tk' hS F' N' => ?fin) ?hs; (case hh => exact rfl); (case F => k_asm); (case N => k_asm); (case hm => exact rfl); (case hb => with_reducible assumption); (case hsz => exact Nat.le_of_ble_eq_true rfl); (case hnm => exact rfl); (case hk => exact rfl); (case hnd => decide); (case hc => exact rfl); (case hcell => decide); (case hkind => exact rfl); (case hnames => decide); (case hx => exact rfl); (case hs => (intro _; exact rfl)))
  case turn =>
    k_steps
    all_goals exact ⟨_, _, rfl, fun _ _ e => e, _, rfl⟩
  case fin =>
    k_steps
    all_goals (refine' hret _ _ _ (Fr.keep ?F) ?P; (case F => assumption); (case P => exact congrArg Value.bool (fits_val hl c e h0)))
end Mine
end
section
open PySem PySem.W PyProof.Rows PySem.Calls
namespace Mine
noncomputable def imode (n : Int) : Int := Builtin.bitAnd n 4095
theorem imode_eq {n : Int} (h : 0 ≤ n) : imode n = n % 4096 := by
  obtain ⟨k, rfl⟩ := Int.eq_ofNat_of_zero_le h
  have e : (4095 : Int) = ((4095 : Nat) : Int) := rfl
  unfold imode
  rw [e, bitAnd_nat, show (4095 : Nat) = 2 ^ 12 - 1 from rfl, Nat.and_two_pow_sub_one_eq_mod]
  rfl
theorem imode_in {n : Int} (h : 0 ≤ n) : 0 ≤ imode n ∧ imode n < 4096 := by
  rw [imode_eq h]
  omega
end Mine
namespace Mine
/-- the rights in the order of the looks -/
noncomputable def InOrder (ms rs : List Int) : Prop :=
  ∃ os : List Int, rs = os.map (fun k => imode (ms.getD k.toNat 0)) ∧ os.Perm ((List.range ms.length).map fun (i : Nat) => (0 : Int) + (i : Int)) ∧
    os.Pairwise (fun x y => ¬ (look (ms.getD y.toNat 0)).cps.toList < (look (ms.getD x.toNat 0)).cps.toList)
end Mine
end
section
open PySem PySem.W PyProof.Rows PySem.Calls
namespace Mine
theorem add_xor : ∀ n a b : Nat, a ≤ n → a + b = (a ^^^ b) + 2 * (a &&& b) := by
  intro n
  induction n with
  | zero => intro a b h; have : a = 0 := by omega
            subst this; simp
  | succ n ih =>
    intro a b h
    have h1 := ih (a / 2) (b / 2) (by omega)
    rw [← Nat.xor_div_two, ← Nat.and_div_two] at h1
    have h2 : (a ^^^ b) % 2 = (a + b) % 2 := by
      have := Nat.xor_mod_two_pow (a := a) (b := b) (n := 1)
      rw [show (2:Nat)^1 = 2 from rfl] at this
      rw [this, Nat.add_mod]
      rcases Nat.mod_two_eq_zero_or_one a with h | h <;> rcases Nat.mod_two_eq_zero_or_one b with h' | h' <;> rw [h, h'] <;> rfl
    have h3 : (a &&& b) % 2 = (a % 2) * (b % 2) := by
      have := Nat.and_mod_two_pow (a := a) (b := b) (n := 1)
      rw [show (2:Nat)^1 = 2 from rfl] at this
      rw [this]
      rcases Nat.mod_two_eq_zero_or_one a with h | h <;> rcases Nat.mod_two_eq_zero_or_one b with h' | h' <;> rw [h, h'] <;> rfl
    rcases Nat.mod_two_eq_zero_or_one a with h | h <;> rcases Nat.mod_two_eq_zero_or_one b with h' | h' <;> rw [h, h'] at h3 <;> omega
theorem xor_nat (a b : Nat) : Builtin.bitXor (a : Int) (b : Int) = ((a ^^^ b : Nat) : Int) := by
  rw [bitXor_and, bitAnd_nat]
  have := add_xor a a b (Nat.le_refl _)
  omega
theorem xor_in {x y : Int} (hx : 0 ≤ x ∧ x < 4096) (hy : 0 ≤ y ∧ y < 4096) : 0 ≤ Builtin.bitXor x y ∧ Builtin.bitXor x y < 4096 := by
  obtain ⟨a, rfl⟩ := Int.eq_ofNat_of_zero_le hx.1
  obtain ⟨b, rfl⟩ := Int.eq_ofNat_of_zero_le hy.1
  rw [xor_nat]
  have := Nat.xor_lt_two_pow (x := a) (y := b) (n := 12) (by omega) (by omega)
  omega
end Mine
end
section
open PySem PySem.W PyProof.Rows PySem.Calls
namespace Mine
set_option pp.deepTerms false
set_option pp.maxSteps 3000
set_option maxRecDepth 100000

theorem lines1_Num : True := by
  w_top off
  k_with_none
  k_with "eval Constant int" => ((with_reducible refine const_c ?_; intro _ _; (try dsimp only)))
  k_with "binaryOp Add int int" => ((with_reducible refine add_c ?_; intro _ _; (try dsimp only)))
  k_with "binaryOp Sub int int" => ((with_reducible refine sub_c ?_; intro _ _; (try dsimp only)))
  k_with "binaryOp BitAnd int int" => ((with_reducible refine and_c ?_; intro _ _; (try dsimp only)))
  k_with "binaryOp BitOr int int" => ((with_reducible refine or_c ?_; intro _ _; (try dsimp only)))
  k_with "binaryOp BitXor int int" => ((with_reducible refine xor_c ?_; intro _ _; (try dsimp only)))
  k_with "binaryOp Mod int int" => ((with_reducible refine mod_c (by decide) ?_; intro _ _; (try dsimp only)))
  k_with "binaryOp FloorDiv int int" => ((with_reducible refine div_c (by decide) (by decide) ?_; intro _ _; (try dsimp only)))
  k_with "binaryOp Mult int int" => ((with_reducible refine mul_c (by constructor <;> omega) (by constructor <;> omega) ?_; intro _ _; (try dsimp only)))
  k_with "binaryOp LShift int int" => ((with_reducible refine shl_c (by constructor <;> omega) (by constructor <;> omega) ?_; intro _ _; (try dsimp only)))
  k_with "binaryOp RShift int int" => ((with_reducible refine shr_c (by omega) ?_; intro _ _; (try dsimp only)))
  k_with "binaryOp Pow int int" => ((with_reducible refine pow_c (by constructor <;> omega) (by constructor <;> omega) ?_; intro _ _; (try dsimp only)))
  trivial
noncomputable def numL (n : Int) : Int := (((0 * 16 + n / 8 ^ Int.toNat 2 % 8 / 2 * 4 + (if n / 8 ^ Int.toNat 2 % 8 % 2 = 1 then 3 - n / 512 / 2 ^ Int.toNat 2 % 2 else n / 512 / 2 ^ Int.toNat 2 % 2)) * 16 + n / 8 ^ Int.toNat 1 % 8 / 2 * 4 + (if n / 8 ^ Int.toNat 1 % 8 % 2 = 1 then 3 - n / 512 / 2 ^ Int.toNat 1 % 2 else n / 512 / 2 ^ Int.toNat 1 % 2)) * 16 + n / 8 ^ Int.toNat 0 % 8 / 2 * 4 + (if n / 8 ^ Int.toNat 0 % 8 % 2 = 1 then 3 - n / 512 / 2 ^ Int.toNat 0 % 2 else n / 512 / 2 ^ Int.toNat 0 % 2))
theorem lines2_Num : True := by
  k_with "eval BinOp" => ((k_here; k_dflt (refine' ari_c ?k_kw ?F_kw ?A_kw (fun _ _ => ?_); (case k_kw => rfl); (case F_kw => k_asm); (case A_kw => (repeat' (first | with_reducible refine' Ari.bin ?_ ?_ ?_ | with_reducible exact OpIs.add | with_reducible exact OpIs.sub | with_reducible exact OpIs.or | with_reducible refine' OpIs.mod ?_ | with_reducible refine' OpIs.div ?_ | with_reducible refine' OpIs.mul ?_ ?_ | with_reducible refine' OpIs.shl ?_ ?_ | with_reducible refine' OpIs.shr ?_ | with_reducible refine' OpIs.pow ?_ ?_ | with_reducible exact Ari.const | exact Ari.name rfl rfl (by decide) | (show _ ∧ _; first | decide | with_reducible assumption | exact ⟨by omega, by omega⟩) | (show _ < _; first | decide | omega) | (show _ ≤ _; first | decide | omega))))); (try dsimp only)))
  k_with "eval IfExp" => ((k_here; refine hold ?_))
  trivial
theorem num_step {a f v B : Int} (h : 0 ≤ a ∧ a < B) : 0 ≤ a * 16 + f % 8 / 2 * 4 + (if f % 8 % 2 = 1 then 3 - v % 2 else v % 2) ∧ a * 16 + f % 8 / 2 * 4 + (if f % 8 % 2 = 1 then 3 - v % 2 else v % 2) < B * 16 := by
  have h1 : 0 ≤ f % 8 / 2 ∧ f % 8 / 2 ≤ 3 := by omega
  have h2 : 0 ≤ v % 2 ∧ v % 2 ≤ 1 := by omega
  generalize f % 8 / 2 = p at *
  generalize v % 2 = q at *
  split <;> omega
theorem num_wide {a B : Int} (h : 0 ≤ a ∧ a < B) (hB : B ≤ 2 ^ 64) : -(2 ^ 64) < a ∧ a < 2 ^ 64 := by omega
set_option maxRecDepth 100000 in
set_option maxHeartbeats 8000000 in
theorem number_spec (w : World) (n : Int) (t : Tok) (h0 : 0 ≤ n ∧ n < 4096) : Fn w 126 1 [.int n t] [] (fun _ v _ => ∃ t, v = .int (numL n) t) := by
  unfold Fn
  k_fill
  intro p loose mean mg mb base outer dp un gd s Q E B X T hd hu hret
  refine wpAny_call ?_
  k_dflt (refine' enter0 (binds := [(Str.ofString "rights", .int n t)]) ?k1 ?k3 ?k5 ?k6 ?k7 ?k8 ?k9 ?kB ?_ ?c2 ?c3 ?c4 ?c5; (case k1 => exact B); (case k3 => exact X); (case k5 => exact T); (case k6 => k_is); (case k7 => k_is); (case k8 => ktr_room); (case k9 => exact BindsTo.of_eq rfl); (case c5 => decide); (case kB => exact locs rfl); (case c2 => exact rfl); (case c3 => exact rfl); (case c4 => exact rfl); k_whole; intro L' h' F' N'; (try dsimp only [List.reverse_cons, List.reverse_nil, List.nil_append, List.cons_append] at F'); (try dsimp only); (try k_fold))
  have bd2 := num_step (a := 0) (f := n / 8 ^ Int.toNat 2) (v := n / 512 / 2 ^ Int.toNat 2) (B := 1) (by decide)
  have bd1 := num_step (f := n / 8 ^ Int.toNat 1) (v := n / 512 / 2 ^ Int.toNat 1) bd2
  have bw2 := num_wide bd2 (by decide)
  have bw1 := num_wide bd1 (by decide)
  clear bd2 bd1
  k_steps
  unfold Hold
  refine ifexp_c (n / 8 ^ Int.toNat 2 % 8 % 2 = 1) (3 - n / 512 / 2 ^ Int.toNat 2 % 2) (n / 512 / 2 ^ Int.toNat 2 % 2) ?a2 (fun t' k' => ?b2)
  case a2 =>
    k_steps
    all_goals first | exact got_pos (by assumption) | exact got_neg (by assumption)
  k_steps
  unfold Hold
  refine ifexp_c (n / 8 ^ Int.toNat 1 % 8 % 2 = 1) (3 - n / 512 / 2 ^ Int.toNat 1 % 2) (n / 512 / 2 ^ Int.toNat 1 % 2) ?a1 (fun t' k' => ?b1)
  case a1 =>
    k_steps
    all_goals first | exact got_pos (by assumption) | exact got_neg (by assumption)
  k_steps
  unfold Hold
  refine ifexp_c (n / 8 ^ Int.toNat 0 % 8 % 2 = 1) (3 - n / 512 / 2 ^ Int.toNat 0 % 2) (n / 512 / 2 ^ Int.toNat 0 % 2) ?a0 (fun t' k' => ?b0)
  case a0 =>
    k_steps
    all_goals first | exact got_pos (by assumption) | exact got_neg (by assumption)
  k_steps
  refine' hret _ _ _ (Fr.keep ?F) ⟨_, ?P⟩
  case F => assumption
  case P => rfl
end Mine
end
section
open PySem PySem.W PyProof.Rows PySem.Calls
namespace Mine
theorem cells_none : ∀ (rest : List (Str × NameKind)) (n : Nat) (acc : List (Str × Addr)), (∀ y ∈ rest, y.2 ≠ .cell) → cellsFrom n rest acc = acc
  | [], _, _, _ => rfl
  | (a, k) :: r, n, acc, h => by
    unfold cellsFrom
    rw [if_neg (by have := h _ (.head _); simpa using this)]
    exact cells_none r n acc fun y hy => h y (.tail _ hy)
theorem push_none : ∀ (rest : List (Str × NameKind)) (h : Heap), (∀ y ∈ rest, y.2 ≠ .cell) → pushCells h rest = h
  | [], _, _ => rfl
  | (a, k) :: r, h, hr => by
    unfold pushCells
    rw [if_neg (by have := hr _ (.head _); simpa using this)]
    exact push_none r h fun y hy => hr y (.tail _ hy)
section
variable {M : Model} {A : Around} {E : Value → Shared → Prop} {s : Shared}
theorem newEnv_cell {scope : Scope} {globals : Addr} {cl : List (Str × Addr)} {qual : Str} {env : Env} {n0 x : Str} {rest : List (Str × NameKind)} {Q : Env → Shared → Prop}
    (hn : scope.names = (n0, .local) :: (x, .cell) :: rest) (hr : ∀ y ∈ rest, y.2 ≠ .cell)
    (hQ : Q { scope := scope, locals := s.heap.objs.size, globals := globals, cells := (x, s.heap.objs.size + 1) :: cl, qual := qual, func := none, code := env.code, frame := env.frame, builtins := env.builtins }
      { s with heap := (s.heap.push { cls := .type "dict", data := .dict #[] }).push { cls := .type "cell", data := .cell none } }) :
    wpAny M A (newFunctionEnv scope globals cl [] qual none .none (some env)) Q E s := by
  simp only [newFunctionEnv, Option.isSome_some, if_true]
  refine wpAny_bind (wpAny_alloc ?_)
  refine wpAny_bind (wpAny_layCells _ (fun name kind cells => by cases hkc : kind == NameKind.cell <;> simp [hkc]) _ _ _ _ ?_)
  have e1 : ∀ n acc, cellsFrom n scope.names acc = (x, n) :: acc := fun n acc => by
    rw [hn]
    unfold cellsFrom
    rw [if_neg (by decide)]
    unfold cellsFrom
    rw [if_pos (by decide), cells_none rest _ _ hr]
  have e2 : ∀ h : Heap, pushCells h scope.names = h.push { cls := .type "cell", data := .cell none } := fun h => by
    rw [hn]
    unfold pushCells
    rw [if_neg (by decide)]
    unfold pushCells
    rw [if_pos (by decide), push_none rest _ hr]
  rw [e1, e2]
  refine wpAny_bind ?_
  rw [List.forIn_nil]
  refine wpAny_pure (wpAny_pure ?_)
  rw [show ({ s with heap := s.heap.push { cls := .type "dict", data := .dict #[] } } : Shared).heap.objs.size = s.heap.objs.size + 1 from Heap.size_push ..]
  exact hQ
end
section
variable {prog : Program} {w : World} {A : Around} {E : Value → Shared → Prop} {s : Shared} {h₀ : Heap} {L : Addr} {m : Str → Option Value} {env : Env} {ct iter : Expr} {x : Str} {px pe : Pos} {scope : Scope} {cl : List (Str × Addr)} {pos : Pos} {Q : Value → Shared → Prop}
open LCg
/-- a value, and the ledger kept -/
inductive LeftK {α : Type} (h₀ : Heap) (L : Addr) (m : Str → Option Value) (news : List (Addr × Obj)) (s : Shared) (R : α → Prop) (v : α) (s' : Shared) : Prop
  | mk (h' : Heap) (tk' : Nat) : s' = { s with heap := h', toks := tk' } → Fr h₀ L h' m → News h₀ L h' news → R v → LeftK h₀ L m news s R v s'
/-- what a caught name's comprehension wants of its source -/
inductive SrcK (prog : Program) (w : World) (A : Around) (h₀ : Heap) (L : Addr) (m : Str → Option Value) (env : Env) (ct : Expr) (x : Str) (scope : Scope) (cl : List (Str × Addr)) (Q : Value → Shared → Prop) (xv : Value) (s₁ : Shared) : Prop
  | mk (ax : Addr) (vs : List Value) (ns : List Int) (news : List (Addr × Obj)) (p : Int → Bool) : xv = .ref ax → A.handled = none → Fr h₀ L s₁.heap m → News h₀ L s₁.heap news → SrcAt h₀ ax vs.toArray news → IntsAre vs ns → ns.length ≤ 64 → (∀ n u c oc C oC I oI D oD h tk (E' : Value → Shared → Prop), n ∈ ns → oc.data = .cell (some (.int n u)) → Fr h₀ L h m → News h₀ L h ((C, oC) :: (c, oc) :: (I, oI) :: (D, oD) :: news) → wpAny (model prog w) A (isTrue ct (compEnvC scope ((x, c) :: cl) C env) (eval ct (compEnvC scope ((x, c) :: cl) C env))) (LeftK h₀ L m ((C, oC) :: (c, oc) :: (I, oI) :: (D, oD) :: news) { s₁ with heap := h, toks := tk } fun b => b = p n) E' { s₁ with heap := h, toks := tk }) → (∀ ys D h' tk', IntsAre ys (ns.filter p) → Fr h₀ L h' m → News h₀ L h' ((D, lst ys) :: news) → Off1 D news → Q (.ref D) { s₁ with heap := h', toks := tk' }) → SrcK prog w A h₀ L m env ct x scope cl Q xv s₁
theorem off1_of {D : Addr} : ∀ {l : List (Addr × Obj)}, (∀ p ∈ l, p.1 ≠ D) → Off1 D l
  | [], _ => trivial
  | _ :: _, h => ⟨h _ (.head _), off1_of fun p hp => h p (.tail _ hp)⟩
/-- what stands between two turns -/
inductive CellInv (h₀ : Heap) (L : Addr) (m : Str → Option Value) (s₁ : Shared) (I ax : Addr) (ns : List Int) (p : Int → Bool) (news : List (Addr × Obj)) (k : Nat) (s' : Shared) : Prop
  | mk (h' : Heap) (tk i : Nat) (ys : List Value) (oc : Obj) (v : Option Value) : s' = { s₁ with heap := h', toks := tk } → i ≤ ns.length → k = ns.length + 1 - i → h'.IsListIter I ax i → IntsAre ys ((ns.take i).filter p) → oc.data = .cell v →
    Fr h₀ L h' m → h'.get? (I + 2) = some { cls := .type "dict", data := .dict #[] } → News h₀ L h' ((I + 3, oc) :: (I + 1, lst ys) :: news) → CellInv h₀ L m s₁ I ax ns p news k s'
theorem listcomp_cell {rest : List (Str × NameKind)} {n0 : Str} (F₀ : Fr h₀ L s.heap m)
    (hclos : closureFor scope env = pure cl) (hkind : scope.kind = .function) (hn : scope.names = (n0, .local) :: (x, .cell) :: rest) (hr : ∀ y ∈ rest, y.2 ≠ .cell)
    (hnames : ∀ y ∈ scope.names, y.2 = .local → scope.names.lookup y.1 = some .local)
    (hx : ∀ c C, (compEnvC scope ((x, c) :: cl) C env).kindOf x = some .cell) (hxd : (x == ("__debug__" : Str)) = false)
    (h : wpAny (model prog w) A (eval iter env) (SrcK prog w A h₀ L m env ct x scope cl Q) E s)
    (hs : ∀ x, foldedSetIterable iter env x = pure x := by intro _; rfl) :
    wpAny (model prog w) A (eval (.ListComp (.Name x pe) [⟨.Name x px, iter, [ct], 0⟩] scope pos) env) Q E s := by
  rw [eval_ListComp]
  refine wpAny_comprehension_free (use := none) rfl hs hclos hkind hnames (wpAny_mono h (fun xv s₁ h₁ => ?_) fun _ _ e => e)
  obtain ⟨ax, vs, ns, news, p, rfl, hh, F, N, S, hi, hsz, turn, fin⟩ := h₁
  have hl := S.list F.keep N
  have hlt : ax < s₁.heap.objs.size := by obtain ⟨_, e, _⟩ := hl; exact Heap.lt_size e
  refine wpAny_pyIter_list hl ?_
  refine wpAny_newObj_type (newEnv_cell hn hr ?_)
  -- the addresses: the iterator, the list, the names, the cell
  obtain ⟨I, hI⟩ : ∃ I, I = s₁.heap.objs.size := ⟨_, rfl⟩
  generalize hH1 : s₁.heap.push { cls := .type "list_iterator", data := .fields #[.ref ax, .int 0 0] } = H1
  have hD1 : H1.objs.size = I + 1 := by rw [← hH1, Heap.size_push, hI]
  generalize hH2 : H1.push { cls := .type "list", dict := none, data := .seq ([] : List Value).toArray } = H2
  have hC2 : H2.objs.size = I + 2 := by rw [← hH2, Heap.size_push, hD1]
  generalize hH3 : H2.push { cls := .type "dict", data := .dict #[] } = H3
  have hc3 : H3.objs.size = I + 3 := by rw [← hH3, Heap.size_push, hC2]
  generalize hH4 : H3.push { cls := .type "cell", data := .cell none } = H4
  dsimp only
  have up : ∀ b o, s₁.heap.get? b = some o → H4.get? b = some o := fun b o e => by
    rw [← hH4, ← hH3, ← hH2, ← hH1]
    exact Heap.get?_push_of_some _ (Heap.get?_push_of_some _ (Heap.get?_push_of_some _ (Heap.get?_push_of_some _ e)))
  have gI : H4.get? I = some { cls := .type "list_iterator", data := .fields #[.ref ax, .int 0 0] } := by
    rw [← hH4, ← hH3, ← hH2, ← hH1, hI]
    exact Heap.get?_push_of_some _ (Heap.get?_push_of_some _ (Heap.get?_push_of_some _ (Heap.get?_push_size _ rfl)))
  have gD : H4.get? (I + 1) = some (lst []) := by
    rw [← hH4, ← hH3, ← hH2, ← hD1]
    exact Heap.get?_push_of_some _ (Heap.get?_push_of_some _ (Heap.get?_push_size _ rfl))
  have gC : H4.get? (I + 2) = some { cls := .type "dict", data := .dict #[] } := by
    rw [← hH4, ← hH3, ← hC2]
    exact Heap.get?_push_of_some _ (Heap.get?_push_size _ rfl)
  have gc : H4.get? (I + 3) = some { cls := .type "cell", data := .cell none } := by
    rw [← hH4, ← hc3]
    exact Heap.get?_push_size _ rfl
  rw [hC2, hD1]
  have hLI : @LT.lt Nat _ L I := by rw [hI]; exact ltN F.ns.lt
  have new : ∀ b : Nat, @LE.le Nat _ I b → h₀.get? b = none := fun b hb => Heap.get?_none_of_le (Nat.le_trans F.above (Nat.le_trans (Nat.le_of_lt hLI) hb))
  have hnI : ∀ q ∈ news, @LT.lt Nat _ q.1 I := fun q hq => by rw [hI]; exact ltN (Heap.lt_size (N q hq).1)
  have neI : ∀ {a k : Nat}, a < I → @Ne Nat a (I + k) := fun ha e => by omega
  have hCns : ∀ {h : Heap}, h.get? (I + 2) = some { cls := .type "dict", data := .dict #[] } → h.Ns (I + 2) fun _ => none := fun e => ⟨_, #[], 0, e, rfl, fun _ he => by simp at he, fun _ => rfl⟩
  have haxI : @LT.lt Nat _ ax I := by rw [hI]; exact ltN hlt
  have Wk := Walks.list (prog := prog) (w := w) hh I ax (Nat.ne_of_lt haxI) vs.toArray
  have hvl : vs.toArray.size = ns.length := by simp [hi.length]
  rw [hvl] at Wk
  have F4 : Fr h₀ L H4 m := fr_keeps F up
  have N4 : News h₀ L H4 news := news_keeps N up
  have loop : codeAny (model prog w) A (.compLoop (.ListComp (.Name x pe) [⟨.Name x px, iter, [ct], 0⟩] scope pos) 0 (.ref I) (.ref (I + 1)) (compEnvC scope ((x, I + 3) :: cl) (I + 2) env))
      (compPost (model prog w) A E none Q (.ref (I + 1)) (I + 2)) { s₁ with heap := H4 } := by
    refine codeAny_compLoop_tests
      (CellInv h₀ L m s₁ I ax ns p news) ?_ (ns.length + 1)
      ⟨H4, s₁.toks, 0, [], { cls := .type "cell", data := .cell none }, none, rfl, Nat.zero_le _, rfl, ⟨_, gI, rfl, rfl⟩, .nil, rfl, F4, gC, fun q hq => ?_⟩
    · rintro k s' ⟨h', tk, i, ys, oc, v, rfl, hin, rfl, hit, hys, hocd, F', gC', N'⟩
      have Nn : News h₀ L h' news := fun q hq => N' q (.tail _ (.tail _ hq))
      have hl' : h'.IsList ax vs.toArray := S.list F'.keep Nn
      have next : ∀ h₁ : Heap, (∀ b o, b ∉ [I] → h'.get? b = some o → h₁.get? b = some o) → Fr h₀ L h₁ m ∧ h₁.get? (I + 2) = some { cls := .type "dict", data := .dict #[] } ∧ News h₀ L h₁ ((I + 3, oc) :: (I + 1, lst ys) :: news) := fun h₁ hk₁ => by
        refine ⟨fr_at F' (fun b o hb e => hk₁ b o (by simpa using hb) e) (Nat.ne_of_lt hLI) (new I (Nat.le_refl _)), hk₁ _ _ (by simp) gC', news_at N' (fun b o hb e => hk₁ b o (by simpa using hb) e) fun q hq => ?_⟩
        rcases List.mem_cons.mp hq with rfl | hq
        · exact neN (by omega)
        · rcases List.mem_cons.mp hq with rfl | hq
          · exact neN (by omega)
          · exact neN (Nat.ne_of_lt (hnI q hq))
      by_cases hlt' : i < ns.length
      · refine Wk.item i _ _ _ hlt' ⟨hit, hl'⟩ fun v' h₁ tk₁ hPv hst₁ hk₁ => ?_
        obtain ⟨F₁, gC₁, N₁⟩ := next h₁ hk₁
        obtain ⟨u, hvu⟩ := hi.get i ns[i] (by simp [hlt'])
        have hv' : v' = .int ns[i] u := by
          have : vs[i]? = some v' := by simpa using hPv
          rw [hvu] at this; exact (Option.some.inj this).symm
        subst hv'
        refine wpAny_assign_Name (wpAny_storeName_cell (by simp [compEnvC, relabel, hkind]) (hx _ _) (by simp [compEnvC, List.lookup]) ⟨oc, (N₁ _ (.head _)).1, hocd⟩ fun h₂ hv₂ hs₂ => ?_)
        obtain ⟨oc₂, hoc₂, hocd₂⟩ := hv₂
        have F₂ : Fr h₀ L h₂ m := fr_at F₁ hs₂.extBut (neI hLI) (new _ (by omega))
        have hit₂ : h₂.IsListIter I ax (i + 1) := hst₁.1.at fun o e => hs₂.extBut _ _ (neN (by omega)) e
        have gC₂ := hs₂.extBut (I + 2) _ (neN (by omega)) gC₁
        obtain ⟨oI, hoI₂, hoIr⟩ := id hit₂
        have Nn₂ : News h₀ L h₂ news := fun q hq => ⟨hs₂.extBut _ _ (neI (hnI q hq)) (N₁ q (.tail _ (.tail _ hq))).1, (N₁ q (.tail _ (.tail _ hq))).2⟩
        have gD₂ := hs₂.extBut (I + 1) _ (neN (by omega)) (N₁ (I + 1, lst ys) (.tail _ (.head _))).1
        have ND : ∀ {h : Heap}, h.get? (I + 1) = some (lst ys) → h.get? (I + 1) = some (lst ys) ∧ I + 1 ≠ L ∧ h₀.get? (I + 1) = none := fun e => ⟨e, neN (by omega), new _ (by omega)⟩
        have N₂ : News h₀ L h₂ ((I + 2, { cls := .type "dict", data := .dict #[] }) :: (I + 3, oc₂) :: (I, oI) :: (I + 1, lst ys) :: news) := fun q hq => by
          rcases List.mem_cons.mp hq with rfl | hq
          · exact ⟨gC₂, neN (by omega), new _ (by omega)⟩
          rcases List.mem_cons.mp hq with rfl | hq
          · exact ⟨hoc₂, neN (by omega), new _ (by omega)⟩
          · rcases List.mem_cons.mp hq with rfl | hq
            · exact ⟨hoI₂, neN (by omega), new _ (Nat.le_refl _)⟩
            · rcases List.mem_cons.mp hq with rfl | hq
              · exact ND gD₂
              · exact Nn₂ q hq
        refine wpAny_tests_one ?_
        refine wpAny_mono (turn ns[i] u (I + 3) oc₂ (I + 2) _ I oI (I + 1) (lst ys) h₂ _ _ (by simp) hocd₂ F₂ N₂) (fun ok s₄ h₄ => ?_) fun _ _ e => e
        obtain ⟨h₄', tk₄, rfl, F₄, N₅, hok⟩ := h₄
        have gC₄ := (N₅ _ (.head _)).1
        have N₄ : News h₀ L h₄' ((I + 3, oc₂) :: (I, oI) :: (I + 1, lst ys) :: news) := fun q hq => N₅ q (.tail _ hq)
        have hit₄ : h₄'.IsListIter I ax (i + 1) := ⟨oI, (N₄ (I, oI) (.tail _ (.head _))).1, hoIr⟩
        have htake : ns.take (i + 1) = ns.take i ++ [ns[i]] := by rw [List.take_add_one, List.getElem?_eq_getElem hlt']; rfl
        cases ok with
        | true =>
          rw [if_pos rfl]
          refine wpAny_Name (wpAny_loadName_cell (by simp [compEnvC, relabel, hkind]) (hx _ _) (by simp [compEnvC, List.lookup]) ⟨oc₂, (N₄ _ (.head _)).1, hocd₂⟩ ?_) hxd
          have hyl : ys.length ≤ 64 := by
            have := hys.length
            have h2 := List.length_filter_le p (ns.take i)
            have h3 : (ns.take i).length ≤ ns.length := by rw [List.length_take]; omega
            omega
          refine append_at (hsz := by show ys.toArray.size ≤ sizeLine; rw [List.size_toArray, sizeLine_eq]; omega) (N₄ (I + 1, lst ys) (.tail _ (.tail _ (.head _)))).1 fun h₅ hs₅ hD₅ => ?_
          refine ⟨ns.length + 1 - (i + 1), by omega, h₅, tk₄, i + 1, ys ++ [.int ns[i] u], oc₂, _, rfl, hlt', rfl, hit₄.at fun o e => hs₅.extBut _ _ (neN (by omega)) e, ?_, hocd₂, fr_at F₄ hs₅.extBut (neI hLI) (new _ (by omega)), hs₅.extBut _ _ (neN (by omega)) gC₄, fun q hq => ?_⟩
          · rw [htake, List.filter_append]
            have : [ns[i]].filter p = [ns[i]] := by simp [← hok]
            rw [this]
            exact ksk_snoc hys
          · rcases List.mem_cons.mp hq with rfl | hq
            · have z := N₄ (I + 3, oc₂) (.head _)
              exact ⟨hs₅.extBut _ _ (neN (by omega)) z.1, z.2⟩
            · rcases List.mem_cons.mp hq with rfl | hq
              · exact ⟨hD₅.trans (congrArg some (lst_snoc ys _)), neN (by omega), new _ (by omega)⟩
              · have z := N₄ q (.tail _ (.tail _ (.tail _ hq)))
                exact ⟨hs₅.extBut _ _ (neI (hnI q hq)) z.1, z.2⟩
        | false =>
          rw [if_neg Bool.false_ne_true]
          refine ⟨ns.length + 1 - (i + 1), by omega, h₄', tk₄, i + 1, ys, oc₂, _, rfl, hlt', rfl, hit₄, ?_, hocd₂, F₄, gC₄, fun q hq => N₄ q (by
            rcases List.mem_cons.mp hq with rfl | hq
            · exact .head _
            · exact .tail _ (.tail _ hq))⟩
          rw [htake, List.filter_append]
          have : [ns[i]].filter p = [] := by simp [← hok]
          rw [this, List.append_nil]
          exact hys
      · have hie : i = ns.length := by omega
        subst hie
        refine Wk.done _ _ _ ⟨hit, hl'⟩ fun h₁ tk₁ hk₁ => ?_
        obtain ⟨F₁, gC₁, N₁⟩ := next h₁ hk₁
        rw [List.take_length] at hys
        refine ⟨_, hCns gC₁, fun h'' hs'' => fin ys (I + 1) h'' tk₁ hys (fr_at F₁ hs''.extBut (neI hLI) (new _ (by omega))) (fun q hq => ?_) (off1_of fun q hq => neI (hnI q hq))⟩
        have z := N₁ q (.tail _ hq)
        refine ⟨hs''.extBut _ _ ?_ z.1, z.2⟩
        rcases List.mem_cons.mp hq with rfl | hq
        · exact neN (by omega)
        · exact neI (hnI q hq)
    · rcases List.mem_cons.mp hq with rfl | hq
      · exact ⟨gc, neN (by omega), new _ (by omega)⟩
      · rcases List.mem_cons.mp hq with rfl | hq
        · exact ⟨gD, neN (by omega), new _ (by omega)⟩
        · exact N4 q hq
  rw [← hI]
  exact codeAny_compStart_list loop (Wk.self 0 _ _ _ ⟨⟨_, gI, rfl, rfl⟩, S.list F4.keep N4⟩ loop)
end
end Mine
end
section
open PySem PySem.W PyProof.Rows PySem.Calls
namespace Mine
theorem News.pick {h₀ h : Heap} {L : Addr} {news l : List (Addr × Obj)} (N : News h₀ L h news) (hs : ∀ p ∈ l, p ∈ news) : News h₀ L h l := fun p hp => N p (hs p hp)
section
variable {prog : Program} {w : World} {A : Around} {E : Value → Shared → Prop} {s : Shared} {env : Env} {h₀ : Heap} {m : Str → Option Value}
/-- what a turn leaves: the list grown from acc to acc' -/
inductive GrowEnd (h₀ : Heap) (L c D : Addr) (m : Str → Option Value) (oc : Obj) (own : List (Addr × Obj)) (acc' : List Int) (s₁ : Shared) (f : Flow) (s₂ : Shared) : Prop
  | mk (h' tk' ks kd) : s₂ = { s₁ with heap := h', toks := tk' } → Fr h₀ L h' m → f = .next → News h₀ L h' ((c, oc) :: (D, W.listOf ks.toArray kd) :: own) → IntsAre ks acc' → GrowEnd h₀ L c D m oc own acc' s₁ f s₂
inductive CellTurn (h₀ : Heap) (L : Addr) (m : Str → Option Value) (s : Shared) (I ax c D : Addr) (ns : List Int) (f : List Int → Int → List Int) (own : List (Addr × Obj)) (k : Nat) (s' : Shared) : Prop
  | mk (h' : Heap) (tk' i : Nat) (oc : Obj) (v : Option Value) (ks : List Value) (kd : Nat) : s' = { s with heap := h', toks := tk' } → i ≤ ns.length → k = ns.length - i → h'.IsListIter I ax i → IntsAre ks ((ns.take i).foldl f []) → oc.data = .cell v →
    Fr h₀ L h' m → News h₀ L h' ((c, oc) :: (D, W.listOf ks.toArray kd) :: own) → CellTurn h₀ L m s I ax c D ns f own k s'
theorem for_cell {Q : Flow → Shared → Prop} {x : Str} {px pos : Pos} {iter : Expr} {body : List Stmt} {ax c D : Addr} {oc₀ : Obj} {v₀ : Option Value} {kd₀ : Nat} {own : List (Addr × Obj)} {vs : List Value} {ns : List Int} (f : List Int → Int → List Int)
    (hh : A.handled = none) (F : Fr h₀ env.locals s.heap m) (N : News h₀ env.locals s.heap ((c, oc₀) :: (D, W.listOf #[] kd₀) :: own)) (hoc : oc₀.data = .cell v₀) (hcD : c ≠ D) (offc : ∀ p ∈ own, p.1 ≠ c) (offD : ∀ p ∈ own, p.1 ≠ D)
    (hsrc : LCg.SrcAt h₀ ax vs.toArray own) (hi : IntsAre vs ns)
    (hk : env.scope.kind = .function) (hx : env.kindOf x = some .cell) (hc : env.cells.lookup x = some c)
    (hev : ∀ (Q' : Value → Shared → Prop), Q' (.ref ax) s → wpAny (model prog w) A (eval iter env) Q' E s)
    (turn : ∀ n u h tk own' oc ks kd acc, n ∈ ns → acc.length ≤ ns.length → oc.data = .cell (some (.int n u)) → IntsAre ks acc → (∀ p ∈ own, p ∈ own') → (∀ p ∈ own', p.1 ≠ c) → (∀ p ∈ own', p.1 ≠ D) → Fr h₀ env.locals h m → News h₀ env.locals h ((c, oc) :: (D, W.listOf ks.toArray kd) :: own') →
      wpAny (model prog w) A (execs body env) (GrowEnd h₀ env.locals c D m oc own' (f acc n) { s with heap := h, toks := tk }) E { s with heap := h, toks := tk })
    (done : ∀ h' tk' oc ks kd, Fr h₀ env.locals h' m → News h₀ env.locals h' ((c, oc) :: (D, W.listOf ks.toArray kd) :: own) → IntsAre ks (ns.foldl f []) → Q .next { s with heap := h', toks := tk' })
    (hf : ∀ acc n, (f acc n).length ≤ acc.length + 1)
    (hs : ∀ x, foldedSetIterable iter env x = pure x := by intro _; rfl)
    (hE : PassesOwn (model prog w) A env E := by passes_own) :
    wpAny (model prog w) A (exec (.For (.Name x px) iter body [] pos) env) Q E s := by
  have hl : s.heap.IsList ax vs.toArray := hsrc.list F.keep fun p hp => N p (List.mem_cons_of_mem _ (List.mem_cons_of_mem _ hp))
  have haxs : ax < s.heap.objs.size := by obtain ⟨_, e, _⟩ := hl; exact Heap.lt_size e
  have hLs : env.locals < s.heap.objs.size := F.ns.lt
  have hab : h₀.objs.size ≤ env.locals := F.above
  refine wpAny_For (hev _ (wpAny_pyIter_list hl ?_)) hs
  obtain ⟨I, hI⟩ : ∃ I, I = s.heap.objs.size := ⟨_, rfl⟩
  have hIL : env.locals ≠ I := by rw [hI]; exact Nat.ne_of_lt hLs
  have hI0 : h₀.get? I = none := Heap.get?_none_of_le (by rw [hI]; exact Nat.le_trans hab (Nat.le_of_lt hLs))
  have haxI : ax ≠ I := by rw [hI]; exact Nat.ne_of_lt haxs
  have hNI : ∀ p ∈ ((c, oc₀) :: (D, W.listOf #[] kd₀) :: own), p.1 ≠ I := fun p hp => by rw [hI]; exact Nat.ne_of_lt (Heap.lt_size (N p hp).1)
  have hcI : c ≠ I := hNI _ (.head _)
  have hDI : D ≠ I := hNI _ (.tail _ (.head _))
  have hoI : ∀ p ∈ own, p.1 ≠ I := fun p hp => hNI p (.tail _ (.tail _ hp))
  have hcL : c ≠ env.locals := (N _ (.head _)).2.1
  have hc0 : h₀.get? c = none := (N _ (.head _)).2.2
  have Wk := Walks.list (prog := prog) (w := w) hh I ax haxI vs.toArray
  have hvl : vs.toArray.size = ns.length := by simp [hi.length]
  rw [hvl] at Wk
  rw [← hI]
  refine codeAny_forLoop_any (R := fun r s' => match r with | .ok f => Q f s' | .error e => cameBackBy (model prog w) A env E e s')
    (CellTurn h₀ env.locals m s I ax c D ns f own) ?_ ns.length
    ⟨_, _, 0, oc₀, v₀, [], kd₀, rfl, Nat.zero_le _, rfl, by rw [hI]; exact ⟨_, Heap.get?_push_size _ rfl, rfl, rfl⟩, .nil, hoc, F.push _, fun p hp => ⟨Heap.get?_push_of_some _ (N p hp).1, (N p hp).2⟩⟩
  rintro k s' ⟨h', tk', i, oc, v, ks, kd, rfl, hin, rfl, hit, hks, hocd, F', N'⟩
  have hl' : h'.IsList ax vs.toArray := hsrc.list F'.keep fun p hp => N' p (.tail _ (.tail _ hp))
  have hNI' : ∀ p ∈ ((c, oc) :: (D, W.listOf ks.toArray kd) :: own), p.1 ≠ I := fun p hp => by
    rcases List.mem_cons.mp hp with rfl | hp
    · exact hcI
    · rcases List.mem_cons.mp hp with rfl | hp
      · exact hDI
      · exact hoI p hp
  have next : ∀ h₁ : Heap, (∀ b o, b ∉ [I] → h'.get? b = some o → h₁.get? b = some o) → Fr h₀ env.locals h₁ m ∧ News h₀ env.locals h₁ ((c, oc) :: (D, W.listOf ks.toArray kd) :: own) := fun h₁ hk₁ =>
    ⟨fr_at F' (fun b o hb e => hk₁ b o (by simpa using hb) e) hIL hI0, news_at N' (fun b o hb e => hk₁ b o (by simpa using hb) e) hNI'⟩
  by_cases hlt : i < ns.length
  · refine Wk.item i _ _ _ hlt ⟨hit, hl'⟩ fun v' h₁ tk₁ hPv hst₁ hk₁ => ?_
    obtain ⟨F₁, N₁⟩ := next h₁ hk₁
    obtain ⟨u, hvu⟩ := hi.get i ns[i] (by simp [hlt])
    have hv' : v' = .int ns[i] u := by
      have : vs[i]? = some v' := by simpa using hPv
      rw [hvu] at this; exact (Option.some.inj this).symm
    subst hv'
    show wpAny _ _ (letOwnedTupleGo (.Name x px) (.ref I) _) _ _ _
    unfold letOwnedTupleGo
    refine wpAny_pure ?_
    refine wpAny_assign_Name (wpAny_storeName_cell hk hx hc ⟨oc, (N₁ _ (.head _)).1, hocd⟩ fun h₂ hv₂ hs₂ => ?_)
    obtain ⟨oc₂, hoc₂, hocd₂⟩ := hv₂
    have hNc : ∀ p ∈ ((D, W.listOf ks.toArray kd) :: own), p.1 ≠ c := fun p hp => by
      rcases List.mem_cons.mp hp with rfl | hp
      · exact hcD.symm
      · exact offc p hp
    have F₂ : Fr h₀ env.locals h₂ m := fr_at F₁ hs₂.extBut hcL.symm hc0
    have hit₂ : h₂.IsListIter I ax (i + 1) := hst₁.1.at fun o e => hs₂.extBut _ _ hcI.symm e
    obtain ⟨oI, hoI₂, hoIr⟩ := id hit₂
    have N₂ : News h₀ env.locals h₂ ((c, oc₂) :: (D, W.listOf ks.toArray kd) :: (I, oI) :: own) := fun p hp => by
      rcases List.mem_cons.mp hp with rfl | hp
      · exact ⟨hoc₂, hcL, hc0⟩
      · have hp' : p = (I, oI) ∨ p ∈ ((D, W.listOf ks.toArray kd) :: own) := by
          rcases List.mem_cons.mp hp with rfl | hp
          · exact .inr (.head _)
          · rcases List.mem_cons.mp hp with rfl | hp
            · exact .inl rfl
            · exact .inr (.tail _ hp)
        rcases hp' with rfl | hp'
        · exact ⟨hoI₂, hIL.symm, hI0⟩
        · have z := N₁ p (.tail _ hp')
          exact ⟨hs₂.extBut _ _ (hNc p hp') z.1, z.2⟩
    have hacc : ∀ (l : List Int) (a : List Int), (l.foldl f a).length ≤ a.length + l.length := by
      intro l
      induction l with
      | nil => intro a; simp
      | cons b l ih => intro a; rw [List.foldl_cons]; have := ih (f a b); have := hf a b; simp only [List.length_cons]; omega
    have hal : ((ns.take i).foldl f []).length ≤ ns.length := by
      have := hacc (ns.take i) []
      simp only [List.length_nil, List.length_take] at this
      omega
    refine wpAny_passesOwn hE ?_
    refine wpAny_mono (turn ns[i] u h₂ _ ((I, oI) :: own) oc₂ ks kd _ (by simp) hal hocd₂ hks (fun p hp => .tail _ hp) (fun p hp => by
      rcases List.mem_cons.mp hp with rfl | hp
      · exact hcI.symm
      · exact offc p hp) (fun p hp => by
      rcases List.mem_cons.mp hp with rfl | hp
      · exact hDI.symm
      · exact offD p hp) F₂ N₂) (fun fl s₃ h₃ => ?_) fun _ _ e => e
    obtain ⟨h₃', tk₃, ks₃, kd₃, rfl, F₃, rfl, N₃, hks₃⟩ := h₃
    refine ⟨ns.length - (i + 1), by omega, h₃', tk₃, i + 1, oc₂, _, ks₃, kd₃, rfl, hlt, rfl, ⟨oI, (N₃ (I, oI) (.tail _ (.tail _ (.head _)))).1, hoIr⟩, ?_, hocd₂, F₃, fun p hp => N₃ p (by
      rcases List.mem_cons.mp hp with rfl | hp
      · exact .head _
      · rcases List.mem_cons.mp hp with rfl | hp
        · exact .tail _ (.head _)
        · exact .tail _ (.tail _ (.tail _ hp)))⟩
    have e : ns.take (i + 1) = ns.take i ++ [ns[i]] := by rw [List.take_add_one, List.getElem?_eq_getElem hlt]; rfl
    rw [e, List.foldl_append]
    exact hks₃
  · have hie : i = ns.length := by omega
    subst hie
    refine Wk.done _ _ _ ⟨hit, hl'⟩ fun h₁ tk₁ hk₁ => wpAny_execs_nil ?_
    obtain ⟨F₁, N₁⟩ := next h₁ hk₁
    rw [List.take_length] at hks
    exact done h₁ tk₁ oc ks kd F₁ N₁ hks
end
end Mine
namespace Mine
section
variable {prog : Program} {w : World} {A : Around} {E : Value → Shared → Prop} {h : Heap} {g : Array GenState} {d : Drawn} {tk : Nat} {o : OsState} {h₀ : Heap} {L D : Addr} {m : Str → Option Value} {news l : List (Addr × Obj)} {Q : Value → Shared → Prop} {ks : List Value} {kd : Nat} {x : Value}
/-- an append to a made list; what is to be kept is named -/
theorem app_c (l : List (Addr × Obj)) (F : Fr h₀ L h m) (N : News h₀ L h news) (hm : (D, W.listOf ks.toArray kd) ∈ news) (hl : ∀ p ∈ l, p ∈ news) (off : ∀ p ∈ l, p.1 ≠ D) (hz : ks.length ≤ 64)
    (H : ∀ h', Fr h₀ L h' m → News h₀ L h' ((D, W.listOf (ks ++ [x]).toArray (kd + 1)) :: l) → Q .none ⟨h', g, d, tk, o⟩) : wpAny (model prog w) A (call (.builtin "list.append") [.ref D, x]) Q E ⟨h, g, d, tk, o⟩ := by
  have N' : News h₀ L h ((D, W.listOf ks.toArray kd) :: l) := fun p hp => N p (by
    rcases List.mem_cons.mp hp with rfl | hp
    · exact hm
    · exact hl p hp)
  refine append_K F N' (.head off) (fun h' F' N'' => H h' F' ?_) (by rw [List.size_toArray, sizeLine_eq]; omega)
  have e : ks.toArray.push x = (ks ++ [x]).toArray := by simp
  rw [e] at N''
  exact N''
end
noncomputable def keptStep (fitting acc : List Int) (n : Int) : List Int := if (acc.filter fun o => !(fitting.any (· == Builtin.bitXor n o))) = [] then acc ++ [n] else acc
theorem keptStep_len (fitting acc : List Int) (n : Int) : (keptStep fitting acc n).length ≤ acc.length + 1 := by
  unfold keptStep
  split
  · simp
  · omega
theorem ints_snoc {vs : List Value} {ns : List Int} (h : IntsAre vs ns) (n : Int) (t : Tok) : IntsAre (vs ++ [.int n t]) (ns ++ [n]) := by
  induction h with
  | nil => exact .cons _ _ .nil
  | cons x u _ ih => exact .cons _ _ ih
end Mine
namespace Mine
/-- a new list lies apart from what stood (kept out of omega's sight) -/
structure Apart (D : Addr) (news : List (Addr × Obj)) : Prop where
  off : LCg.Off1 D news
theorem off1_mem {D : Addr} : ∀ {l : List (Addr × Obj)}, LCg.Off1 D l → ∀ p ∈ l, p.1 ≠ D
  | [], _, _, h => nomatch h
  | _ :: _, x, p, h => by
    rcases List.mem_cons.mp h with rfl | h
    · exact x.1
    · exact off1_mem x.2 p h
theorem Apart.l {D a : Addr} {o : Obj} {news : List (Addr × Obj)} (h : Apart D news) (hm : (a, o) ∈ news) : a ≠ D := off1_mem h.off _ hm
theorem Apart.r {D a : Addr} {o : Obj} {news : List (Addr × Obj)} (h : Apart D news) (hm : (a, o) ∈ news) : D ≠ a := (off1_mem h.off _ hm).symm
end Mine
namespace Mine
noncomputable def keptL (fit : Int → Bool) (rs : List Int) : List Int := rs.foldl (keptStep (rs.filter fit)) []
end Mine
namespace Mine
theorem News.swap {h₀ h : Heap} {L : Addr} {a b : Addr × Obj} {l : List (Addr × Obj)} (N : News h₀ L h (a :: b :: l)) : News h₀ L h (b :: a :: l) := fun p hp => N p (by
  rcases List.mem_cons.mp hp with rfl | hp
  · exact .tail _ (.head _)
  · rcases List.mem_cons.mp hp with rfl | hp
    · exact .head _
    · exact .tail _ (.tail _ hp))
theorem keptStep_yes {fitting acc : List Int} {n : Int} (h : decide (acc.filter (fun o => !(fitting.any (· == Builtin.bitXor n o))) = []) = true) : keptStep fitting acc n = acc ++ [n] := if_pos (of_decide_eq_true h)
theorem keptStep_no {fitting acc : List Int} {n : Int} (h : decide (acc.filter (fun o => !(fitting.any (· == Builtin.bitXor n o))) = []) = false) : keptStep fitting acc n = acc := if_neg (of_decide_eq_false h)
end Mine
end
section
open PySem PySem.W PyProof.Rows PySem.Calls
set_option maxRecDepth 100000
namespace Mine
theorem Fn.useB {w : World} {f : Addr} {k : Nat} {args : List Value} {kw : List (Str × Value)} {P : Heap → Value → Heap → Prop} {p : Program} {loose : List Str} {mean : ExcName → Option Value} {mg mb : Str → Option Value}
    {base : Heap} {outer : List Env} {A : Around} {s : Shared} {Q E : Value → Shared → Prop}
    (C : Fn w f k args kw P) (B : Below A base outer s.heap) (X : (Mine.hd.heap_39 w.params).In s.heap) (T : Top p loose mean mg mb s.heap)
    (hh : A.handled = none) (hd : A.depth + k < recursionLimit) (hu : A.units + 8 * k < cLine)
    (h : ∀ v h' tk', Keeps s.heap h' → P s.heap v h' → Q v { s with heap := h', toks := tk' }) :
    wpAny (model Challenge.rw_oy0045_01.row.prog w) A (call (.ref f) args kw) Q E s := by
  obtain ⟨a1, a2, a3, a4, a5⟩ := A
  have e1 : a1 = none := hh
  have e2 : a3 = some outer := B.stack
  subst e1 e2
  exact C p loose mean mg mb base outer _ _ _ s Q E B X T hd hu h
theorem sorted_num {w : World} {p : Program} {loose : List Str} {mean : ExcName → Option Value} {mg mb : Str → Option Value} {base h₀ : Heap} {outer : List Env} {dp un : Nat} {gd : Option (List Code)} {s : Shared} {Q E : Value → Shared → Prop} {env : Env} {L l : Addr} {m : Str → Option Value} {news : List (Addr × Obj)} {vs : List Value} {ns : List Int}
    (B : Below (Ar dp un gd outer) base outer h₀) (F : Fr h₀ L s.heap m) (N : News h₀ L s.heap news) (X : (Mine.hd.heap_39 w.params).In h₀) (T : Top p loose mean mg mb h₀) (hf : env.frame = some L) (hk : env.scope.kind = .function)
    (hl : s.heap.IsList l vs.toArray) (hi : IntsAre vs ns) (hb : ∀ n ∈ ns, 0 ≤ n ∧ n < 4096) (h64 : ns.length < 64) (hd : dp + 3 < recursionLimit) (hu : un + 20 < cLine)
    (done : ∀ D vs' ns' c h' tk, Fr h₀ L h' m → News h₀ L h' ((D, W.listOf vs'.toArray c) :: news) → (∀ q ∈ news, q.1 < D) → IntsAre vs' ns' → ns'.Perm ns → ns'.Pairwise (fun x y => numL x ≤ numL y) → Q (.ref D) { s with heap := h', toks := tk }) :
    wpAny (model Challenge.rw_oy0045_01.row.prog w) ((Ar dp un gd outer).deeper env) (call (.builtin "sorted") [.ref l] [(Str.ofString "key", .ref 126)]) Q E s := by
  refine ksk_letter (b := false) numL F N hl hi h64 (ksk_s1 _ _) (fun _ => ksk_l1 _ _) (fun _ => ksk_t1 _ _) (fun n t h tk own hn F' N' => ?_) (fun D vs' ns' c h' tk F' N' l1 hI _ hp ho _ => done D vs' ns' c h' tk F' N' l1 hI hp ho)
  refine Fn.useB (number_spec w n t (hb n hn)) (below_in1 (below_in1 (pushX B F' hf hk))) (X.keeps F'.keep) (T.keeps F'.keep) rfl ?_ ?_ fun v h' tk' kp hP => ?_
  · show dp + 1 + 1 < recursionLimit; omega
  · show un + 3 + 1 + 1 + 8 * 1 < cLine; omega
  · obtain ⟨t', rfl⟩ := hP
    exact ⟨h', tk', t', rfl, rfl, fr_keeps F' kp, news_keeps N' kp⟩
section
variable {prog : Program} {w : World} {A : Around} {E : Value → Shared → Prop} {s : Shared} {env : Env} {h₀ : Heap} {m : Str → Option Value}
theorem agree2 {m' m : Str → Option Value} {a b : Str} (h : ∀ z, z ≠ a → z ≠ b → m' z = m z) : m' = m2 a b (m' a) (m' b) m := by
  funext z
  unfold m2
  by_cases e2 : z = b
  · rw [if_pos e2, e2]
  · rw [if_neg e2]
    by_cases e1 : z = a
    · rw [if_pos e1, e1]
    · rw [if_neg e1]; exact h z e1 e2
inductive GrowL (h₀ : Heap) (L D : Addr) (m : Str → Option Value) (x y : Str) (own : List (Addr × Obj)) (acc' : List Int) (s₁ : Shared) (f : Flow) (s₂ : Shared) : Prop
  | mk (h' tk' ks kd m') : s₂ = { s₁ with heap := h', toks := tk' } → Fr h₀ L h' m' → (∀ z, z ≠ y → z ≠ x → m' z = m z) → f = .next → News h₀ L h' ((D, W.listOf ks.toArray kd) :: own) → IntsAre ks acc' → GrowL h₀ L D m x y own acc' s₁ f s₂
/-- a loop over ints that fills a list; a second name y may be stored -/
inductive LocalTurn (h₀ : Heap) (L : Addr) (m : Str → Option Value) (s : Shared) (I ax D : Addr) (x y : Str) (ns : List Int) (f : List Int → Int → List Int) (own : List (Addr × Obj)) (k : Nat) (s' : Shared) : Prop
  | mk (h' : Heap) (tk' i : Nat) (u v : Option Value) (ks : List Value) (kd : Nat) : s' = { s with heap := h', toks := tk' } → i ≤ ns.length → k = ns.length - i → h'.IsListIter I ax i → IntsAre ks ((ns.take i).foldl f []) →
    Fr h₀ L h' (m2 y x v u m) → News h₀ L h' ((D, W.listOf ks.toArray kd) :: own) → LocalTurn h₀ L m s I ax D x y ns f own k s'
theorem for_local {Q : Flow → Shared → Prop} {x y : Str} {px pos : Pos} {iter : Expr} {body : List Stmt} {ax D : Addr} {kd₀ : Nat} {own : List (Addr × Obj)} {vs : List Value} {ns : List Int} (f : List Int → Int → List Int)
    (hh : A.handled = none) (F : Fr h₀ env.locals s.heap m) (N : News h₀ env.locals s.heap ((D, W.listOf #[] kd₀) :: own)) (offD : ∀ p ∈ own, p.1 ≠ D)
    (hsrc : LCg.SrcAt h₀ ax vs.toArray own) (hi : IntsAre vs ns)
    (hx : env.kindOf x = some .local) (hp : (env.scope.kind == .class || (env.scope.kind == .module && env.locals != env.globals)) = false)
    (hev : ∀ (Q' : Value → Shared → Prop), Q' (.ref ax) s → wpAny (model prog w) A (eval iter env) Q' E s)
    (turn : ∀ n u v h tk own' ks kd acc, n ∈ ns → acc.length ≤ ns.length → IntsAre ks acc → (∀ p ∈ own, p ∈ own') → (∀ p ∈ own', p.1 ≠ D) → Fr h₀ env.locals h (fun z => if z = x then some (.int n u) else if z = y then v else m z) → News h₀ env.locals h ((D, W.listOf ks.toArray kd) :: own') →
      wpAny (model prog w) A (execs body env) (GrowL h₀ env.locals D m x y own' (f acc n) { s with heap := h, toks := tk }) E { s with heap := h, toks := tk })
    (done : ∀ u v h' tk' ks kd, Fr h₀ env.locals h' (fun z => if z = x then u else if z = y then v else m z) → News h₀ env.locals h' ((D, W.listOf ks.toArray kd) :: own) → IntsAre ks (ns.foldl f []) → Q .next { s with heap := h', toks := tk' })
    (hf : ∀ acc n, (f acc n).length ≤ acc.length + 1)
    (hs : ∀ x, foldedSetIterable iter env x = pure x := by intro _; rfl)
    (hE : PassesOwn (model prog w) A env E := by passes_own) :
    wpAny (model prog w) A (exec (.For (.Name x px) iter body [] pos) env) Q E s := by
  have hl : s.heap.IsList ax vs.toArray := hsrc.list F.keep fun p hp => N p (List.mem_cons_of_mem _ hp)
  have haxs : ax < s.heap.objs.size := by obtain ⟨_, e, _⟩ := hl; exact Heap.lt_size e
  have hLs : env.locals < s.heap.objs.size := F.ns.lt
  have hab : h₀.objs.size ≤ env.locals := F.above
  refine wpAny_For (hev _ (wpAny_pyIter_list hl ?_)) hs
  obtain ⟨I, hI⟩ : ∃ I, I = s.heap.objs.size := ⟨_, rfl⟩
  have hIL : env.locals ≠ I := by rw [hI]; exact Nat.ne_of_lt hLs
  have hI0 : h₀.get? I = none := Heap.get?_none_of_le (by rw [hI]; exact Nat.le_trans hab (Nat.le_of_lt hLs))
  have haxI : ax ≠ I := by rw [hI]; exact Nat.ne_of_lt haxs
  have hNI : ∀ p ∈ ((D, W.listOf #[] kd₀) :: own), p.1 ≠ I := fun p hp => by rw [hI]; exact Nat.ne_of_lt (Heap.lt_size (N p hp).1)
  have hDI : D ≠ I := hNI _ (.head _)
  have hoI : ∀ p ∈ own, p.1 ≠ I := fun p hp => hNI p (.tail _ hp)
  have Wk := Walks.list (prog := prog) (w := w) hh I ax haxI vs.toArray
  have hvl : vs.toArray.size = ns.length := by simp [hi.length]
  rw [hvl] at Wk
  rw [← hI]
  refine codeAny_forLoop_any (R := fun r s' => match r with | .ok f => Q f s' | .error e => cameBackBy (model prog w) A env E e s')
    (LocalTurn h₀ env.locals m s I ax D x y ns f own) ?_ ns.length
    ⟨_, _, 0, m x, m y, [], kd₀, rfl, Nat.zero_le _, rfl, by rw [hI]; exact ⟨_, Heap.get?_push_size _ rfl, rfl, rfl⟩, .nil, m2_self y x m ▸ F.push _, fun p hp => ⟨Heap.get?_push_of_some _ (N p hp).1, (N p hp).2⟩⟩
  rintro k s' ⟨h', tk', i, u, v, ks, kd, rfl, hin, rfl, hit, hks, F', N'⟩
  have hl' : h'.IsList ax vs.toArray := hsrc.list F'.keep fun p hp => N' p (.tail _ hp)
  have hNI' : ∀ p ∈ ((D, W.listOf ks.toArray kd) :: own), p.1 ≠ I := fun p hp => by
    rcases List.mem_cons.mp hp with rfl | hp
    · exact hDI
    · exact hoI p hp
  have next : ∀ h₁ : Heap, (∀ b o, b ∉ [I] → h'.get? b = some o → h₁.get? b = some o) → Fr h₀ env.locals h₁ (m2 y x v u m) ∧ News h₀ env.locals h₁ ((D, W.listOf ks.toArray kd) :: own) := fun h₁ hk₁ =>
    ⟨fr_at F' (fun b o hb e => hk₁ b o (by simpa using hb) e) hIL hI0, news_at N' (fun b o hb e => hk₁ b o (by simpa using hb) e) hNI'⟩
  by_cases hlt : i < ns.length
  · refine Wk.item i _ _ _ hlt ⟨hit, hl'⟩ fun v' h₁ tk₁ hPv hst₁ hk₁ => ?_
    obtain ⟨F₁, N₁⟩ := next h₁ hk₁
    obtain ⟨t, hvu⟩ := hi.get i ns[i] (by simp [hlt])
    have hv' : v' = .int ns[i] t := by
      have : vs[i]? = some v' := by simpa using hPv
      rw [hvu] at this; exact (Option.some.inj this).symm
    subst hv'
    show wpAny _ _ (letOwnedTupleGo (.Name x px) (.ref I) _) _ _ _
    unfold letOwnedTupleGo
    refine wpAny_pure ?_
    refine wpAny_assign_Name (wpAny_storeName_local hx F₁.ns (fun h₂ hn₂ hs₂ => ?_) hp)
    replace hs₂ : Heap.SameBut env.locals h₁ h₂ := hs₂
    have F₂ := F₁.set hn₂ hs₂
    have e2 : (fun z => if z = x then some (Value.int ns[i] t) else m2 y x v u m z) = fun z => if z = x then some (Value.int ns[i] t) else if z = y then v else m z := by
      funext z
      unfold m2
      by_cases h1 : z = x
      · simp only [if_pos h1]
      · simp only [if_neg h1]
    have F₂' : Fr h₀ env.locals h₂ (fun z => if z = x then some (Value.int ns[i] t) else if z = y then v else m z) := by rw [← e2]; exact F₂
    have N₂ : News h₀ env.locals h₂ ((D, W.listOf ks.toArray kd) :: own) := N₁.set hs₂
    have hit₂ : h₂.IsListIter I ax (i + 1) := hst₁.1.at fun o e => hs₂.extBut _ _ hIL.symm e
    obtain ⟨oI, hoI₂, hoIr⟩ := id hit₂
    have N₃ : News h₀ env.locals h₂ ((D, W.listOf ks.toArray kd) :: (I, oI) :: own) := fun p hp => by
      rcases List.mem_cons.mp hp with rfl | hp
      · exact N₂ _ (.head _)
      · rcases List.mem_cons.mp hp with rfl | hp
        · exact ⟨hoI₂, hIL.symm, hI0⟩
        · exact N₂ _ (.tail _ hp)
    have hacc : ∀ (l : List Int) (a : List Int), (l.foldl f a).length ≤ a.length + l.length := by
      intro l
      induction l with
      | nil => intro a; simp
      | cons b l ih => intro a; rw [List.foldl_cons]; have := ih (f a b); have := hf a b; simp only [List.length_cons]; omega
    have hal : ((ns.take i).foldl f []).length ≤ ns.length := by
      have := hacc (ns.take i) []
      simp only [List.length_nil, List.length_take] at this
      omega
    refine wpAny_passesOwn hE ?_
    refine wpAny_mono (turn ns[i] t v h₂ _ ((I, oI) :: own) ks kd _ (by simp) hal hks (fun p hp => .tail _ hp) (fun p hp => by
      rcases List.mem_cons.mp hp with rfl | hp
      · exact hDI.symm
      · exact offD p hp) F₂' N₃) (fun fl s₃ h₃ => ?_) fun _ _ e => e
    obtain ⟨h₃', tk₃, ks₃, kd₃, m', rfl, F₃, hag, rfl, N₄, hks₃⟩ := h₃
    rw [agree2 hag] at F₃
    refine ⟨ns.length - (i + 1), by omega, h₃', tk₃, i + 1, _, _, ks₃, kd₃, rfl, hlt, rfl, ⟨oI, (N₄ (I, oI) (.tail _ (.head _))).1, hoIr⟩, ?_, F₃, fun p hp => N₄ p (by
      rcases List.mem_cons.mp hp with rfl | hp
      · exact .head _
      · exact .tail _ (.tail _ hp))⟩
    have e : ns.take (i + 1) = ns.take i ++ [ns[i]] := by rw [List.take_add_one, List.getElem?_eq_getElem hlt]; rfl
    rw [e, List.foldl_append]
    exact hks₃
  · have hie : i = ns.length := by omega
    subst hie
    refine Wk.done _ _ _ ⟨hit, hl'⟩ fun h₁ tk₁ hk₁ => wpAny_execs_nil ?_
    obtain ⟨F₁, N₁⟩ := next h₁ hk₁
    rw [List.take_length] at hks
    exact done u v h₁ tk₁ ks kd F₁ N₁ hks
end
end Mine
end
section
open PySem PySem.W PyProof.Rows PySem.Calls
set_option maxRecDepth 100000
namespace Mine
section
variable {prog : Program} {w : World} {A : Around} {E : Value → Shared → Prop} {s : Shared} {env : Env} {h₀ : Heap} {m : Str → Option Value}
/-- the ledger of the doubling loop: the cell of the group, the cell of the firsts, the group -/
inductive GroupAt (h₀ : Heap) (L cg cf : Addr) (own : List (Addr × Obj)) (G : List Int) (h : Heap) : Prop
  | mk (og of D ks kd v) : og.data = .cell (some (.ref D)) → of.data = .cell v → IntsAre ks G → D ≠ cg → D ≠ cf → News h₀ L h ((cg, og) :: (cf, of) :: (D, W.listOf ks.toArray kd) :: own) → GroupAt h₀ L cg cf own G h
inductive GroupEnd (h₀ : Heap) (L cg cf : Addr) (m : Str → Option Value) (own : List (Addr × Obj)) (G : List Int) (s₁ : Shared) (f : Flow) (s₂ : Shared) : Prop
  | mk (h' tk') : s₂ = { s₁ with heap := h', toks := tk' } → Fr h₀ L h' m → f = .next → GroupAt h₀ L cg cf own G h' → GroupEnd h₀ L cg cf m own G s₁ f s₂
inductive TupTurn (h₀ : Heap) (L : Addr) (m : Str → Option Value) (s : Shared) (I T cg cf : Addr) (oT : Obj) (x : Str) (ns G₀ : List Int) (f : List Int → Int → List Int) (own : List (Addr × Obj)) (k : Nat) (s' : Shared) : Prop
  | mk (h' : Heap) (tk' i : Nat) (u : Option Value) (oI : Obj) : s' = { s with heap := h', toks := tk' } → i ≤ ns.length → k = ns.length - i → (oI.cls = .type "tuple_iterator" ∧ oI.data = .fields #[.ref T, .int (i : Nat) 0]) →
      Fr h₀ L h' (fun z => if z = x then u else m z) → GroupAt h₀ L cg cf ((I, oI) :: (T, oT) :: own) ((ns.take i).foldl f G₀) h' → TupTurn h₀ L m s I T cg cf oT x ns G₀ f own k s'
theorem for_tup {Q : Flow → Shared → Prop} {x : Str} {px pos : Pos} {iter : Expr} {body : List Stmt} {cg cf : Addr} {own : List (Addr × Obj)} {G₀ : List Int} (ns : List Int) (f : List Int → Int → List Int)
    (hh : A.handled = none) (offg : ∀ p ∈ own, p.1 ≠ cg) (offf : ∀ p ∈ own, p.1 ≠ cf)
    (hx : env.kindOf x = some .local) (hp : (env.scope.kind == .class || (env.scope.kind == .module && env.locals != env.globals)) = false)
    (hev : wpAny (model prog w) A (eval iter env) (fun xv s₁ => ∃ T vs h' tk', xv = .ref T ∧ s₁ = { s with heap := h', toks := tk' } ∧ h'.IsTuple T vs.toArray ∧ IntsAre vs ns ∧ (∀ p ∈ own, p.1 ≠ T) ∧ T ≠ cg ∧ T ≠ cf ∧ T ≠ env.locals ∧ h₀.get? T = none ∧ Fr h₀ env.locals h' m ∧
      ∃ og of D ks kd v, og.data = .cell (some (.ref D)) ∧ of.data = .cell v ∧ IntsAre ks G₀ ∧ D ≠ cg ∧ D ≠ cf ∧ News h₀ env.locals h' ((cg, og) :: (cf, of) :: (D, W.listOf ks.toArray kd) :: own)) E s)
    (turn : ∀ i n u h tk own' G, ns[i]? = some n → G = (ns.take i).foldl f G₀ → (∀ p ∈ own, p ∈ own') → (∀ p ∈ own', p.1 ≠ cg) → (∀ p ∈ own', p.1 ≠ cf) → Fr h₀ env.locals h (fun z => if z = x then some (.int n u) else m z) → GroupAt h₀ env.locals cg cf own' G h →
      wpAny (model prog w) A (execs body env) (GroupEnd h₀ env.locals cg cf (fun z => if z = x then some (.int n u) else m z) own' (f G n) { s with heap := h, toks := tk }) E { s with heap := h, toks := tk })
    (done : ∀ u h' tk', Fr h₀ env.locals h' (fun z => if z = x then u else m z) → GroupAt h₀ env.locals cg cf own (ns.foldl f G₀) h' → Q .next { s with heap := h', toks := tk' })
    (hs : ∀ x, foldedSetIterable iter env x = pure x := by intro _; rfl)
    (hE : PassesOwn (model prog w) A env E := by passes_own) :
    wpAny (model prog w) A (exec (.For (.Name x px) iter body [] pos) env) Q E s := by
  refine wpAny_For (wpAny_mono hev (fun xv s₁ h₁ => ?_) fun _ _ e => e) hs
  obtain ⟨T, vs, hT', tkT, rfl, rfl, hT, hi, hoT, hTg, hTf, hTL, hT0, F, og, of, D, ks, kd, v, e1, e2, e3, e4, e5, N⟩ := h₁
  refine wpAny_pyIter_tuple hT ?_
  obtain ⟨I, hI⟩ : ∃ I, I = hT'.objs.size := ⟨_, rfl⟩
  have hLs : env.locals < hT'.objs.size := F.ns.lt
  have hIL : env.locals ≠ I := by rw [hI]; exact Nat.ne_of_lt hLs
  have hI0 : h₀.get? I = none := Heap.get?_none_of_le (by rw [hI]; exact Nat.le_trans F.above (Nat.le_of_lt hLs))
  have hTI : T ≠ I := by rw [hI]; obtain ⟨_, e, _⟩ := hT; exact Nat.ne_of_lt (Heap.lt_size e)
  have hNI : ∀ p ∈ ((cg, og) :: (cf, of) :: (D, W.listOf ks.toArray kd) :: own), p.1 ≠ I := fun p hp => by rw [hI]; exact Nat.ne_of_lt (Heap.lt_size (N p hp).1)
  have hgI : cg ≠ I := hNI _ (.head _)
  have hfI : cf ≠ I := hNI _ (.tail _ (.head _))
  have hoI : ∀ p ∈ own, p.1 ≠ I := fun p hp => hNI p (.tail _ (.tail _ (.tail _ hp)))
  have hvl : vs.length = ns.length := hi.length
  obtain ⟨oT, hoT', hcT⟩ := id hT
  dsimp only
  rw [← hI]
  refine codeAny_forLoop_any (R := fun r s' => match r with | .ok f => Q f s' | .error e => cameBackBy (model prog w) A env E e s')
    (TupTurn h₀ env.locals m s I T cg cf oT x ns G₀ f own) ?_ ns.length
    ⟨_, tkT, 0, m x, { cls := .type "tuple_iterator", data := .fields #[.ref T, .int 0 0] }, rfl, Nat.zero_le _, rfl, ⟨rfl, rfl⟩, ?_, og, of, D, ks, kd, v, e1, e2, e3, e4, e5, fun p hp => ?_⟩
  · rintro k s' ⟨h', tk', i, u, oI, rfl, hin, rfl, hoI', F', og, of, D, ks, kd, v, e1, e2, e3, e4, e5, N'⟩
    have hit : h'.IsTupleIter I T i := ⟨oI, (N' (I, oI) (.tail _ (.tail _ (.tail _ (.head _))))).1, hoI'⟩
    have hT' : h'.IsTuple T vs.toArray := ⟨oT, (N' (T, oT) (.tail _ (.tail _ (.tail _ (.tail _ (.head _)))))).1, hcT⟩
    have hsub : ∀ p ∈ ((cg, og) :: (cf, of) :: (D, W.listOf ks.toArray kd) :: own), p ∈ ((cg, og) :: (cf, of) :: (D, W.listOf ks.toArray kd) :: (I, oI) :: (T, oT) :: own) := fun p hp => by
      rcases List.mem_cons.mp hp with rfl | hp
      · exact .head _
      · rcases List.mem_cons.mp hp with rfl | hp
        · exact .tail _ (.head _)
        · rcases List.mem_cons.mp hp with rfl | hp
          · exact .tail _ (.tail _ (.head _))
          · exact .tail _ (.tail _ (.tail _ (.tail _ (.tail _ hp))))
    have hDI : D ≠ I := fun e => by
      have h1 := (N' (D, W.listOf ks.toArray kd) (.tail _ (.tail _ (.head _)))).1
      have h2 := (N' (I, oI) (.tail _ (.tail _ (.tail _ (.head _))))).1
      rw [e, h2] at h1
      have := congrArg Obj.cls (Option.some.inj h1)
      rw [hoI'.1] at this
      exact absurd (Value.type.inj this) (by decide)
    have hNI' : ∀ p ∈ ((cg, og) :: (cf, of) :: (D, W.listOf ks.toArray kd) :: (T, oT) :: own), p.1 ≠ I := fun p hp => by
      rcases List.mem_cons.mp hp with rfl | hp
      · exact hgI
      · rcases List.mem_cons.mp hp with rfl | hp
        · exact hfI
        · rcases List.mem_cons.mp hp with rfl | hp
          · exact hDI
          · rcases List.mem_cons.mp hp with rfl | hp
            · exact hTI
            · exact hoI p hp
    have Nt : News h₀ env.locals h' ((cg, og) :: (cf, of) :: (D, W.listOf ks.toArray kd) :: (T, oT) :: own) := fun p hp => N' p (by
      rcases List.mem_cons.mp hp with rfl | hp
      · exact .head _
      · rcases List.mem_cons.mp hp with rfl | hp
        · exact .tail _ (.head _)
        · rcases List.mem_cons.mp hp with rfl | hp
          · exact .tail _ (.tail _ (.head _))
          · exact .tail _ (.tail _ (.tail _ (.tail _ hp))))
    by_cases hlt : i < ns.length
    · obtain ⟨t, hvu⟩ := hi.get i ns[i] (by simp [hlt])
      refine wpAny_pyNext_tuple_item hit hT' (x := .int ns[i] t) (by simpa using hvu) fun h₁ hit₁ hs₁ => ?_
      have F₁ := fr_at F' hs₁.extBut hIL hI0
      have N₁ := news_at Nt hs₁.extBut hNI'
      show wpAny _ _ (letOwnedTupleGo (.Name x px) (.ref I) _) _ _ _
      unfold letOwnedTupleGo
      refine wpAny_pure ?_
      refine wpAny_assign_Name (wpAny_storeName_local hx F₁.ns (fun h₂ hn₂ hs₂ => ?_) hp)
      replace hs₂ : Heap.SameBut env.locals h₁ h₂ := hs₂
      have F₂ := F₁.set hn₂ hs₂
      have em : (fun z => if z = x then some (Value.int ns[i] t) else if z = x then u else m z) = fun z => if z = x then some (Value.int ns[i] t) else m z := by
        funext z
        by_cases h1 : z = x
        · simp only [if_pos h1]
        · simp only [if_neg h1]
      have F₂' : Fr h₀ env.locals h₂ (fun z => if z = x then some (Value.int ns[i] t) else m z) := by rw [← em]; exact F₂
      have N₂ := N₁.set hs₂
      obtain ⟨oI₂, hoI₂, hoIr⟩ := id hit₁
      have gI₂ := hs₂.extBut _ _ hIL.symm hoI₂
      have N₃ : News h₀ env.locals h₂ ((cg, og) :: (cf, of) :: (D, W.listOf ks.toArray kd) :: (I, oI₂) :: (T, oT) :: own) := fun p hp => by
        rcases List.mem_cons.mp hp with rfl | hp
        · exact N₂ _ (.head _)
        · rcases List.mem_cons.mp hp with rfl | hp
          · exact N₂ _ (.tail _ (.head _))
          · rcases List.mem_cons.mp hp with rfl | hp
            · exact N₂ _ (.tail _ (.tail _ (.head _)))
            · rcases List.mem_cons.mp hp with rfl | hp
              · exact ⟨gI₂, hIL.symm, hI0⟩
              · exact N₂ _ (.tail _ (.tail _ (.tail _ hp)))
      refine wpAny_passesOwn hE ?_
      refine wpAny_mono (turn i ns[i] t h₂ _ ((I, oI₂) :: (T, oT) :: own) _ (by simp [hlt]) rfl (fun p hp => .tail _ (.tail _ hp)) (fun p hp => ?_) (fun p hp => ?_) F₂' ⟨og, of, D, ks, kd, v, e1, e2, e3, e4, e5, N₃⟩) (fun fl s₃ h₃ => ?_) fun _ _ e => e
      · rcases List.mem_cons.mp hp with rfl | hp
        · exact hgI.symm
        · rcases List.mem_cons.mp hp with rfl | hp
          · exact hTg
          · exact offg p hp
      · rcases List.mem_cons.mp hp with rfl | hp
        · exact hfI.symm
        · rcases List.mem_cons.mp hp with rfl | hp
          · exact hTf
          · exact offf p hp
      · obtain ⟨h₃', tk₃, rfl, F₃, rfl, GA⟩ := h₃
        have e : ns.take (i + 1) = ns.take i ++ [ns[i]] := by rw [List.take_add_one, List.getElem?_eq_getElem hlt]; rfl
        refine ⟨ns.length - (i + 1), by omega, h₃', tk₃, i + 1, _, oI₂, rfl, hlt, rfl, hoIr, F₃, ?_⟩
        rw [e, List.foldl_append]
        exact GA
    · have hie : i = ns.length := by omega
      subst hie
      refine wpAny_pyNext_tuple_end hh hit hT' (by simp [hvl]) fun h₁ hx₁ => wpAny_execs_nil ?_
      refine done u h₁ tk' (fr_at F' hx₁ hIL hI0) ⟨og, of, D, ks, kd, v, e1, e2, ?_, e4, e5, ?_⟩
      · rw [List.take_length] at e3; exact e3
      · exact news_at (fun p hp => N' p (hsub p hp)) hx₁ fun p hp => hNI' p (by
          rcases List.mem_cons.mp hp with rfl | hp
          · exact .head _
          · rcases List.mem_cons.mp hp with rfl | hp
            · exact .tail _ (.head _)
            · rcases List.mem_cons.mp hp with rfl | hp
              · exact .tail _ (.tail _ (.head _))
              · exact .tail _ (.tail _ (.tail _ (.tail _ hp))))
  · have em : (fun z => if z = x then m x else m z) = m := by
      funext z
      by_cases h1 : z = x
      · rw [if_pos h1, h1]
      · rw [if_neg h1]
    rw [em]
    exact F.push _
  · have up : ∀ b o, hT'.get? b = some o → (hT'.push { cls := .type "tuple_iterator", data := .fields #[.ref T, .int 0 0] }).get? b = some o := fun b o e => Heap.get?_push_of_some _ e
    rcases List.mem_cons.mp hp with rfl | hp
    · exact ⟨up _ _ (N _ (.head _)).1, (N _ (.head _)).2⟩
    · rcases List.mem_cons.mp hp with rfl | hp
      · exact ⟨up _ _ (N _ (.tail _ (.head _))).1, (N _ (.tail _ (.head _))).2⟩
      · rcases List.mem_cons.mp hp with rfl | hp
        · exact ⟨up _ _ (N _ (.tail _ (.tail _ (.head _)))).1, (N _ (.tail _ (.tail _ (.head _)))).2⟩
        · rcases List.mem_cons.mp hp with rfl | hp
          · rw [hI]; exact ⟨Heap.get?_push_size _ rfl, by rw [← hI]; exact hIL.symm, by rw [← hI]; exact hI0⟩
          · rcases List.mem_cons.mp hp with rfl | hp
            · exact ⟨up _ _ hoT', hTL, hT0⟩
            · exact ⟨up _ _ (N p (.tail _ (.tail _ (.tail _ hp)))).1, (N p (.tail _ (.tail _ (.tail _ hp)))).2⟩
end
end Mine
end
section
open PySem PySem.W PyProof.Rows PySem.Calls
set_option maxRecDepth 100000
set_option maxHeartbeats 4000000
namespace Mine
open AutoSeq1 (wpAny_loadPart')
open MeetsSeq MeetsSeq2 MeetsSeq3 SeqRoads2
theorem drop_cons {l : List Int} {i : Nat} (h : i < l.length) : l.drop i = l[i] :: l.drop (i + 1) := List.drop_eq_getElem_cons h
theorem drop_lt {x y : List Int} {i : Nat} (h1 : i < x.length) (h2 : i < y.length) : (x.drop i < y.drop i) ↔ (x[i] < y[i] ∨ x[i] = y[i] ∧ x.drop (i + 1) < y.drop (i + 1)) := by
  rw [drop_cons h1, drop_cons h2, List.cons_lt_cons_iff]
theorem ints_val {vs : List Value} {xs : List Int} (h : IntsAre vs xs) {i : Nat} (hi : i < xs.length) : ∃ t, vs.toArray[((i : Nat) : Int).toNat]? = some (.int xs[i] t) := by
  obtain ⟨t, ht⟩ := h.get i xs[i] (by simp [hi])
  exact ⟨t, by simpa using ht⟩
theorem ints_end {vs : List Value} {xs : List Int} (h : IntsAre vs xs) {i : Nat} (hi : xs.length ≤ i) : vs.toArray[((i : Nat) : Int).toNat]? = none := by
  have := h.length
  simp; omega
theorem lt_end {x y : List Int} {i : Nat} (hx : i ≤ x.length) (hy : i ≤ y.length) (h : i = x.length ∨ i = y.length) : decide (x.length < y.length) = decide (x.drop i < y.drop i) := by
  rcases h with rfl | rfl
  · rw [List.drop_length]
    by_cases hl : x.length < y.length
    · have h1 : ([] : List Int) < y.drop x.length := by rw [drop_cons hl]; exact List.nil_lt_cons ..
      simp only [hl, h1]
    · have : y.drop x.length = [] := List.drop_of_length_le (by omega)
      rw [this]; simp [hl]
  · rw [List.drop_length]
    have : ¬ x.length < y.length := by omega
    simp [this]

theorem lt_loop (l b : Addr) (n n2 : Nat) (dd dd2 : Option Addr) (sl sl2 : Array (Option Value)) {vs us : List Value} {xs ys : List Int} (hx : IntsAre vs xs) (hy : IntsAre us ys) (k : Nat) :
    ∀ i : Nat, xs.length - i = k → i ≤ xs.length → i ≤ ys.length → Meets (Builtin.«list.__eq__.loop» ⟨[.ref l, .ref b, rawInt i, rawInt 0], []⟩)
      (fun _ R s => s.heap.get? l = some { cls := .type "list", dict := dd, data := .seq vs.toArray n, slots := sl } ∧ s.heap.get? b = some { cls := .type "list", dict := dd2, data := .seq us.toArray n2, slots := sl2 } ∧
        R (.ok (.ret (.bool (decide (xs.drop i < ys.drop i))))) s) := by
  have hxl : vs.toArray.size = xs.length := by simp [hx.length]
  have hyl : us.toArray.size = ys.length := by simp [hy.length]
  induction k with
  | zero =>
    intro i hk h1 h2 prog w A R s h
    obtain ⟨hp, g, d, tk, os⟩ := s; obtain ⟨hl, hb, h⟩ := h
    wp_walk using wpAny_loadPart' hl, wpAny_loadPart' hb
    have hie : i = xs.length := by omega
    rw [ints_end hx (by omega)]
    wp_walk using wpAny_loadPart' hl, wpAny_loadPart' hb
    show R (.ok (.ret (.bool (decide (vs.toArray.size < us.toArray.size))))) _
    rw [hxl, hyl, lt_end h1 h2 (.inl hie)]
    exact h
  | succ k ih =>
    intro i hk h1 h2 prog w A R s h
    obtain ⟨hp, g, d, tk, os⟩ := s; obtain ⟨hl, hb, h⟩ := h
    wp_walk using wpAny_loadPart' hl, wpAny_loadPart' hb
    have hlt : i < xs.length := by omega
    obtain ⟨t, hv⟩ := ints_val hx hlt
    by_cases hlt2 : i < ys.length
    · obtain ⟨u, hu⟩ := ints_val hy hlt2
      rw [hv, hu]
      have hdl := drop_lt hlt hlt2
      have hc : ((i : Int) + 1) = ((i + 1 : Nat) : Int) := by push_cast; rfl
      refine wpAny_bind (wpAny_eqBool_int ?_)
      by_cases he : xs[i] = ys[i]
      · rw [show (xs[i] == ys[i]) = true by simpa using he]
        wp_walk
        rw [hc]
        exact ⟨plainId_quiet plain_eq_loop _, codeAny_builtin entry_eq_loop (by
          rw [Around.under_plainId plain_eq_loop _]
          refine ih (i + 1) (by omega) (by omega) (by omega) prog w A R _ ⟨hl, hb, ?_⟩
          have e : decide (xs.drop i < ys.drop i) = decide (xs.drop (i + 1) < ys.drop (i + 1)) := by
            congr 1
            rw [hdl, he]
            simp
          rw [← e]
          exact h)⟩
      · rw [show (xs[i] == ys[i]) = false by simpa using he]
        wp_walk using wpAny_loadPart' hl, wpAny_loadPart' hb
        rw [hv, hu]
        refine wpAny_bind ?_
        show wpAny _ _ (compareOp .Lt (.int xs[i] t) (.int ys[i] u)) _ _ _
        refine lt_int ?_
        wp_walk
        have e : decide (xs.drop i < ys.drop i) = decide (xs[i] < ys[i]) := by
          congr 1
          rw [hdl]
          simp [he]
        rw [← e]
        exact h
    · have hie : i = ys.length := by omega
      rw [hv, ints_end hy (by omega)]
      wp_walk using wpAny_loadPart' hl, wpAny_loadPart' hb
      show R (.ok (.ret (.bool (decide (vs.toArray.size < us.toArray.size))))) _
      rw [hxl, hyl, lt_end h1 h2 (.inr hie)]
      exact h
theorem list_lt (l b : Addr) (n n2 : Nat) (dd dd2 : Option Addr) (sl sl2 : Array (Option Value)) {vs us : List Value} {xs ys : List Int} (hx : IntsAre vs xs) (hy : IntsAre us ys) :
    Meets (Builtin.«list.__lt__» ⟨[.ref l, .ref b], []⟩)
      (fun _ R s => s.heap.get? l = some { cls := .type "list", dict := dd, data := .seq vs.toArray n, slots := sl } ∧ s.heap.get? b = some { cls := .type "list", dict := dd2, data := .seq us.toArray n2, slots := sl2 } ∧
        R (.ok (.ret (.bool (decide (xs < ys))))) s) := by
  intro prog w A R s h
  obtain ⟨hp, g, d, tk, os⟩ := s; obtain ⟨hl, hb, h⟩ := h
  have f3 := AutoSeq1.sub_list_list
  wp_walk using wpAny_loadPart' hl, wpAny_loadPart' hb
  exact ⟨plainId_quiet plain_eq_loop _, codeAny_builtin entry_eq_loop (by
    rw [Around.under_plainId plain_eq_loop _]
    exact lt_loop l b n n2 dd dd2 sl sl2 hx hy _ 0 rfl (Nat.zero_le _) (Nat.zero_le _) prog w A R _ ⟨hl, hb, by simpa using h⟩)⟩
theorem lt_lists {prog : Program} {w : World} {A : Around} {E : Value → Shared → Prop} {s : Shared} {l b : Addr} {vs us : List Value} {xs ys : List Int} {Q : Value → Shared → Prop} (hl : s.heap.IsList l vs.toArray) (hb : s.heap.IsList b us.toArray) (hx : IntsAre vs xs) (hy : IntsAre us ys) (hu : A.units < cLine)
    (H : Q (.bool (decide (xs < ys))) s) : wpAny (model prog w) A (compareOp .Lt (.ref l) (.ref b)) Q E s := by
  obtain ⟨⟨cls, dd, data, sl⟩, ho, hc, n, hd⟩ := id hl
  obtain ⟨⟨cls2, dd2, data2, sl2⟩, ho2, hc2, n2, hd2⟩ := id hb
  simp only at hc hd hc2 hd2
  subst hc hd hc2 hd2
  exact richCompare_meets_room (op := .Lt) ⟨_, ho, rfl⟩ ⟨_, ho2, rfl⟩ F.slot_list_lt F.entry_list_lt (F.args_list_lt_2 _ _) (list_lt l b n n2 dd dd2 sl sl2 hx hy)
    ⟨ho, ho2, (fun x => nomatch x), H⟩ hu

theorem gt_loop (l b : Addr) (n n2 : Nat) (dd dd2 : Option Addr) (sl sl2 : Array (Option Value)) {vs us : List Value} {xs ys : List Int} (hx : IntsAre vs xs) (hy : IntsAre us ys) (k : Nat) :
    ∀ i : Nat, xs.length - i = k → i ≤ xs.length → i ≤ ys.length → Meets (Builtin.«list.__eq__.loop» ⟨[.ref l, .ref b, rawInt i, rawInt 4], []⟩)
      (fun _ R s => s.heap.get? l = some { cls := .type "list", dict := dd, data := .seq vs.toArray n, slots := sl } ∧ s.heap.get? b = some { cls := .type "list", dict := dd2, data := .seq us.toArray n2, slots := sl2 } ∧
        R (.ok (.ret (.bool (decide (ys.drop i < xs.drop i))))) s) := by
  have hxl : vs.toArray.size = xs.length := by simp [hx.length]
  have hyl : us.toArray.size = ys.length := by simp [hy.length]
  induction k with
  | zero =>
    intro i hk h1 h2 prog w A R s h
    obtain ⟨hp, g, d, tk, os⟩ := s; obtain ⟨hl, hb, h⟩ := h
    wp_walk using wpAny_loadPart' hl, wpAny_loadPart' hb
    have hie : i = xs.length := by omega
    rw [ints_end hx (by omega)]
    wp_walk using wpAny_loadPart' hl, wpAny_loadPart' hb
    show R (.ok (.ret (.bool (decide (us.toArray.size < vs.toArray.size))))) _
    rw [hxl, hyl, lt_end h2 h1 (.inr hie)]
    exact h
  | succ k ih =>
    intro i hk h1 h2 prog w A R s h
    obtain ⟨hp, g, d, tk, os⟩ := s; obtain ⟨hl, hb, h⟩ := h
    wp_walk using wpAny_loadPart' hl, wpAny_loadPart' hb
    have hlt : i < xs.length := by omega
    obtain ⟨t, hv⟩ := ints_val hx hlt
    by_cases hlt2 : i < ys.length
    · obtain ⟨u, hu⟩ := ints_val hy hlt2
      rw [hv, hu]
      have hdl := drop_lt hlt2 hlt
      have hc : ((i : Int) + 1) = ((i + 1 : Nat) : Int) := by push_cast; rfl
      refine wpAny_bind (wpAny_eqBool_int ?_)
      by_cases he : xs[i] = ys[i]
      · rw [show (xs[i] == ys[i]) = true by simpa using he]
        wp_walk
        rw [hc]
        exact ⟨plainId_quiet plain_eq_loop _, codeAny_builtin entry_eq_loop (by
          rw [Around.under_plainId plain_eq_loop _]
          refine ih (i + 1) (by omega) (by omega) (by omega) prog w A R _ ⟨hl, hb, ?_⟩
          have e : decide (ys.drop i < xs.drop i) = decide (ys.drop (i + 1) < xs.drop (i + 1)) := by
            congr 1
            rw [hdl, he]
            simp
          rw [← e]
          exact h)⟩
      · rw [show (xs[i] == ys[i]) = false by simpa using he]
        wp_walk using wpAny_loadPart' hl, wpAny_loadPart' hb
        rw [hv, hu]
        refine wpAny_bind ?_
        show wpAny _ _ (compareOp .Gt (.int xs[i] t) (.int ys[i] u)) _ _ _
        refine gt_int ?_
        wp_walk
        have e : decide (ys.drop i < xs.drop i) = decide (ys[i] < xs[i]) := by
          congr 1
          rw [hdl]
          simp [Ne.symm he]
        rw [← e]
        exact h
    · have hie : i = ys.length := by omega
      rw [hv, ints_end hy (by omega)]
      wp_walk using wpAny_loadPart' hl, wpAny_loadPart' hb
      show R (.ok (.ret (.bool (decide (us.toArray.size < vs.toArray.size))))) _
      rw [hxl, hyl, lt_end h2 h1 (.inl hie)]
      exact h
theorem list_gt (l b : Addr) (n n2 : Nat) (dd dd2 : Option Addr) (sl sl2 : Array (Option Value)) {vs us : List Value} {xs ys : List Int} (hx : IntsAre vs xs) (hy : IntsAre us ys) :
    Meets (Builtin.«list.__gt__» ⟨[.ref l, .ref b], []⟩)
      (fun _ R s => s.heap.get? l = some { cls := .type "list", dict := dd, data := .seq vs.toArray n, slots := sl } ∧ s.heap.get? b = some { cls := .type "list", dict := dd2, data := .seq us.toArray n2, slots := sl2 } ∧
        R (.ok (.ret (.bool (decide (ys < xs))))) s) := by
  intro prog w A R s h
  obtain ⟨hp, g, d, tk, os⟩ := s; obtain ⟨hl, hb, h⟩ := h
  have f3 := AutoSeq1.sub_list_list
  wp_walk using wpAny_loadPart' hl, wpAny_loadPart' hb
  exact ⟨plainId_quiet plain_eq_loop _, codeAny_builtin entry_eq_loop (by
    rw [Around.under_plainId plain_eq_loop _]
    exact gt_loop l b n n2 dd dd2 sl sl2 hx hy _ 0 rfl (Nat.zero_le _) (Nat.zero_le _) prog w A R _ ⟨hl, hb, by simpa using h⟩)⟩
theorem gt_lists {prog : Program} {w : World} {A : Around} {E : Value → Shared → Prop} {s : Shared} {l b : Addr} {vs us : List Value} {xs ys : List Int} {Q : Value → Shared → Prop} (hl : s.heap.IsList l vs.toArray) (hb : s.heap.IsList b us.toArray) (hx : IntsAre vs xs) (hy : IntsAre us ys) (hu : A.units < cLine)
    (H : Q (.bool (decide (ys < xs))) s) : wpAny (model prog w) A (compareOp .Gt (.ref l) (.ref b)) Q E s := by
  obtain ⟨⟨cls, dd, data, sl⟩, ho, hc, n, hd⟩ := id hl
  obtain ⟨⟨cls2, dd2, data2, sl2⟩, ho2, hc2, n2, hd2⟩ := id hb
  simp only at hc hd hc2 hd2
  subst hc hd hc2 hd2
  exact richCompare_meets_room (op := .Gt) ⟨_, ho, rfl⟩ ⟨_, ho2, rfl⟩ F.slot_list_gt F.entry_list_gt (F.args_list_gt_2 _ _) (list_gt l b n n2 dd dd2 sl sl2 hx hy)
    ⟨ho, ho2, (fun x => nomatch x), H⟩ hu
end Mine
end
local macro_rules | `(tactic| k_ne) => `(tactic| ((try dsimp only); first | exact Mine.Apart.l (by with_reducible assumption) (by k_mem) | exact Mine.Apart.r (by with_reducible assumption) (by k_mem) | (refine PySem.W.neN ?_; (try dsimp only); omega)))
section
open PySem PySem.W PyProof.Rows PySem.Calls
namespace Mine
set_option pp.deepTerms false
set_option pp.maxSteps 3000
set_option maxRecDepth 100000

theorem lines1_Due : True := by
  w_top off
  k_with_none
  k_with "eval Constant int" => ((with_reducible refine const_c ?_; intro _ _; (try dsimp only)))
  k_with "binaryOp Add int int" => ((with_reducible refine add_c ?_; intro _ _; (try dsimp only)))
  k_with "binaryOp Sub int int" => ((with_reducible refine sub_c ?_; intro _ _; (try dsimp only)))
  k_with "binaryOp BitAnd int int" => ((with_reducible refine and_c ?_; intro _ _; (try dsimp only)))
  k_with "binaryOp BitOr int int" => ((with_reducible refine or_c ?_; intro _ _; (try dsimp only)))
  k_with "binaryOp BitXor int int" => ((with_reducible refine xor_c ?_; intro _ _; (try dsimp only)))
  k_with "binaryOp Mod int int" => ((with_reducible refine mod_c (by decide) ?_; intro _ _; (try dsimp only)))
  k_with "binaryOp FloorDiv int int" => ((with_reducible refine div_c (by decide) (by decide) ?_; intro _ _; (try dsimp only)))
  k_with "binaryOp Mult int int" => ((with_reducible refine mul_c (by constructor <;> omega) (by constructor <;> omega) ?_; intro _ _; (try dsimp only)))
  k_with "binaryOp LShift int int" => ((with_reducible refine shl_c (by constructor <;> omega) (by constructor <;> omega) ?_; intro _ _; (try dsimp only)))
  k_with "binaryOp RShift int int" => ((with_reducible refine shr_c (by omega) ?_; intro _ _; (try dsimp only)))
  k_with "binaryOp Pow int int" => ((with_reducible refine pow_c (by constructor <;> omega) (by constructor <;> omega) ?_; intro _ _; (try dsimp only)))
  k_with "newList" => ((k_here; k_dflt (refine' newList_K ?k1_kw ?k2_kw ?_; (case k1_kw => k_asm); (case k2_kw => k_asm); k_whole); intro _ _ _ _ l1; replace l1 := Apart.mk (off1_of fun p hp => Nat.ne_of_lt (l1 p hp)); (try k_sweep); revert l1; intro _))
  k_with "eval BinOp" => ((k_here; k_dflt (refine' ari_c ?k_kw ?F_kw ?A_kw (fun _ _ => ?_); (case k_kw => rfl); (case F_kw => k_asm); (case A_kw => (repeat' (first | with_reducible refine' Ari.bin ?_ ?_ ?_ | with_reducible exact OpIs.add | with_reducible exact OpIs.sub | with_reducible exact OpIs.or | with_reducible refine' OpIs.mod ?_ | with_reducible refine' OpIs.div ?_ | with_reducible refine' OpIs.mul ?_ ?_ | with_reducible refine' OpIs.shl ?_ ?_ | with_reducible refine' OpIs.shr ?_ | with_reducible refine' OpIs.pow ?_ ?_ | with_reducible exact Ari.const | exact Ari.name rfl rfl (by decide) | (show _ ∧ _; first | decide | exact ⟨by omega, by omega⟩) | (show _ < _; first | decide | omega) | (show _ ≤ _; first | decide | omega))))); (try dsimp only)))
  k_with "eval ListComp" => ((k_here; first
  | (lct_look; k_dflt (refine LCt.ListComp_T (F₀ := by k_asm) (by with_unfolding_all rfl) (by decide) (by rfl) (by decide) (by rfl) ?_))
  | (k_dflt (refine LCg.ListComp_U (F₀ := by k_asm) (by with_unfolding_all rfl) (by decide) (by rfl) (by decide) (by rfl) ?_))))
  k_with "CompSrc" => ((k_here; refine hold ?_))
  k_with "CompSrcT" => ((k_here; refine hold ?_))
  k_with "call builtin:sorted" => ((k_here; refine hold ?_))
  trivial
theorem lines2_Due : True := by
  k_with "FinE" => (((unfold LCg.FinE); intro _ _ _ _ N' o1'; replace o1' := Apart.mk o1'; (try simp only [List.nil_append, List.cons_append] at N'); (try dsimp only); revert N' o1'; intro _ _))
  k_with "FinA" => (((unfold LCg.FinA); intro _ _ _ _ N' o1'; replace o1' := Apart.mk o1'; (try simp only [List.nil_append, List.cons_append] at N'); (try dsimp only); revert N' o1'; intro _ _))
  k_with "exec For Name Name cons nil" => ((k_here; refine hold ?_))
  k_with "call builtin:list.append" => ((k_here; refine hold ?_))
  k_with "compareOp NotIn int ref" => ((k_here; k_dflt (refine notin_list_ints (by with_reducible assumption) (by with_reducible assumption) ?_)))
  k_with "call builtin:len" => ((k_here; k_dflt (refine' len_led ?N_kw ?m_kw ?e_kw ?z_kw (fun _ _ => ?_); (case N_kw => k_asm); (case m_kw => k_mem); (case e_kw => with_reducible assumption); (case z_kw => first | with_reducible assumption | omega))))
  k_with "subscriptTail" => ((k_here; (with_reducible show wpAny _ _ (subscriptTail _ _ (Value.ref _) (Value.int _ _)) _ _ _); k_dflt (first
  | (refine' sub_strs ?h1_kw ?h2_kw ?h3_kw ?h4_kw (fun t' => ?_) ?h5_kw; (case h1_kw => with_reducible assumption); (case h2_kw => with_reducible assumption); (case h3_kw => first | with_reducible assumption | omega); (case h4_kw => with_reducible assumption); (case h5_kw => with_unfolding_all rfl))
  | (refine' sub_ints ?h1_kw ?h2_kw ?h3_kw ?h4_kw (fun t' => ?_) ?h5_kw; (case h1_kw => with_reducible assumption); (case h2_kw => with_reducible assumption); (case h3_kw => first | with_reducible assumption | omega); (case h4_kw => with_reducible assumption); (case h5_kw => with_unfolding_all rfl)))))
  trivial

inductive TupAt (h₀ : Heap) (L : Addr) (m : Str → Option Value) (ns : List Int) (news : List (Addr × Obj)) (s : Shared) : Value → Shared → Prop
  | mk {D : Addr} {h' : Heap} {tk' : Nat} {vs : List Value} (F : Fr h₀ L h' m) (N : News h₀ L h' ((D, { cls := .type "tuple", data := .seq vs.toArray }) :: news)) (lt : ∀ p ∈ news, p.1 ≠ D) (hi : IntsAre vs ns) : TupAt h₀ L m ns news s (.ref D) { s with heap := h', toks := tk' }
theorem for_tup' {prog : Program} {w : World} {A : Around} {E : Value → Shared → Prop} {s : Shared} {env : Env} {h₀ : Heap} {m : Str → Option Value} {Q : Flow → Shared → Prop} {x : Str} {px pos : Pos} {iter : Expr} {body : List Stmt} {cg cf D : Addr} {og of : Obj} {ks : List Value} {kd : Nat} {v : Option Value} {own : List (Addr × Obj)} {G₀ : List Int} (ns : List Int) (f : List Int → Int → List Int)
    (hh : A.handled = none) (hog : og.data = .cell (some (.ref D))) (hof : of.data = .cell v) (hks : IntsAre ks G₀) (hDg : D ≠ cg) (hDf : D ≠ cf) (offg : ∀ p ∈ own, p.1 ≠ cg) (offf : ∀ p ∈ own, p.1 ≠ cf)
    (hx : env.kindOf x = some .local) (hp : (env.scope.kind == .class || (env.scope.kind == .module && env.locals != env.globals)) = false)
    (hev : wpAny (model prog w) A (eval iter env) (TupAt h₀ env.locals m ns ((cg, og) :: (cf, of) :: (D, W.listOf ks.toArray kd) :: own) s) E s)
    (turn : ∀ i n u h tk own' G, ns[i]? = some n → G = (ns.take i).foldl f G₀ → (∀ p ∈ own, p ∈ own') → (∀ p ∈ own', p.1 ≠ cg) → (∀ p ∈ own', p.1 ≠ cf) → Fr h₀ env.locals h (fun z => if z = x then some (.int n u) else m z) → GroupAt h₀ env.locals cg cf own' G h →
      wpAny (model prog w) A (execs body env) (GroupEnd h₀ env.locals cg cf (fun z => if z = x then some (.int n u) else m z) own' (f G n) { s with heap := h, toks := tk }) E { s with heap := h, toks := tk })
    (done : ∀ u h' tk', Fr h₀ env.locals h' (fun z => if z = x then u else m z) → GroupAt h₀ env.locals cg cf own (ns.foldl f G₀) h' → Q .next { s with heap := h', toks := tk' })
    (hs : ∀ x, foldedSetIterable iter env x = pure x := by intro _; rfl)
    (hE : PassesOwn (model prog w) A env E := by passes_own) :
    wpAny (model prog w) A (exec (.For (.Name x px) iter body [] pos) env) Q E s := by
  refine for_tup ns f hh offg offf hx hp (wpAny_mono hev (fun xv s₁ h₁ => ?_) fun _ _ e => e) turn done hs hE
  cases h₁ with
  | mk F N lt hi =>
    have z := N _ (.head _)
    exact ⟨_, _, _, _, rfl, rfl, ⟨_, z.1, rfl, _, rfl⟩, hi, fun p hp => lt p (.tail _ (.tail _ (.tail _ hp))), (lt _ (.head _)).symm, (lt _ (.tail _ (.head _))).symm, z.2.1, z.2.2, F,
      og, of, D, ks, kd, v, hog, hof, hks, hDg, hDf, fun p hp => N p (.tail _ hp)⟩
theorem cell_c {prog : Program} {w : World} {A : Around} {E : Value → Shared → Prop} {h : Heap} {g : Array GenState} {d : Drawn} {tk : Nat} {o : OsState} {env : Env} {h₀ : Heap} {m : Str → Option Value} {news : List (Addr × Obj)} {Q : Unit → Shared → Prop} {x : Str} {c : Addr} {oc : Obj} {v₀ : Option Value} {v : Value} (l : List (Addr × Obj))
    (hk : env.scope.kind = .function) (hx : env.kindOf x = some .cell) (hc : env.cells.lookup x = some c) (F : Fr h₀ env.locals h m) (N : News h₀ env.locals h news) (hm : (c, oc) ∈ news) (hoc : oc.data = .cell v₀) (hl : ∀ p ∈ l, p ∈ news) (off : ∀ p ∈ l, p.1 ≠ c)
    (H : ∀ h' o', Fr h₀ env.locals h' m → o'.data = .cell (some v) → News h₀ env.locals h' ((c, o') :: l) → Q () ⟨h', g, d, tk, o⟩) : wpAny (model prog w) A (storeName env x v) Q E ⟨h, g, d, tk, o⟩ := by
  have z := N _ hm
  refine wpAny_storeName_cell hk hx hc ⟨oc, z.1, hoc⟩ fun h₂ hv₂ hs₂ => ?_
  obtain ⟨o₂, ho₂, hd₂⟩ := hv₂
  refine H h₂ o₂ (fr_at F hs₂.extBut z.2.1.symm z.2.2) hd₂ fun p hp => ?_
  rcases List.mem_cons.mp hp with rfl | hp
  · exact ⟨ho₂, z.2⟩
  · have y := N p (hl p hp)
    exact ⟨hs₂.extBut _ _ (off p hp) y.1, y.2⟩
noncomputable def dueFit (c e : UInt8) (lim : List Int) (side n : Int) : Bool :=
  (decide (side = 1) && decide (lim.map (sg c.toNat e.toNat) < [sg c.toNat e.toNat (n / 64), sg c.toNat e.toNat (n % 64)])) || (decide (side = -1) && decide ([sg c.toNat e.toNat (n / 64), sg c.toNat e.toNat (n % 64)] < lim.map (sg c.toNat e.toNat)))
noncomputable def pickStep (p : Int → Bool) (acc : List Int) (n : Int) : List Int := if p n = true then acc ++ [n] else acc
theorem due_yes {c e : UInt8} {lim : List Int} {side n : Int} (h : (side = 1 ∧ lim.map (sg c.toNat e.toNat) < [sg c.toNat e.toNat (n / 64), sg c.toNat e.toNat (n % 64)]) ∨ (side = -1 ∧ [sg c.toNat e.toNat (n / 64), sg c.toNat e.toNat (n % 64)] < lim.map (sg c.toNat e.toNat))) : dueFit c e lim side n = true := by
  unfold dueFit
  simp only [Bool.or_eq_true, Bool.and_eq_true, decide_eq_true_eq]
  exact h
theorem due_no {c e : UInt8} {lim : List Int} {side n : Int} (h : ¬ ((side = 1 ∧ lim.map (sg c.toNat e.toNat) < [sg c.toNat e.toNat (n / 64), sg c.toNat e.toNat (n % 64)]) ∨ (side = -1 ∧ [sg c.toNat e.toNat (n / 64), sg c.toNat e.toNat (n % 64)] < lim.map (sg c.toNat e.toNat)))) : dueFit c e lim side n = false := by
  cases hb : dueFit c e lim side n with
  | false => rfl
  | true =>
    unfold dueFit at hb
    simp only [Bool.or_eq_true, Bool.and_eq_true, decide_eq_true_eq] at hb
    exact absurd hb h
noncomputable def firstsL (row fit G : List Int) (n : Int) : List Int := ((row.drop n.toNat).take (min (2 * n).toNat row.length - n.toNat)).filter fun x => decide (G.filter (fun o => !(fit.any (· == Builtin.bitXor x o))) = [])
noncomputable def dueStep (row fit G : List Int) (n : Int) : List Int := match firstsL row fit G n with
  | [] => G
  | a :: _ => G ++ G.map (Builtin.bitXor a)
theorem due_nil {row fit G fs : List Int} {n : Int} (h : fs = firstsL row fit G n) (h1 : decide (fs = []) = true) : dueStep row fit G n = G := by
  have h2 : firstsL row fit G n = [] := by rw [← h]; exact of_decide_eq_true h1
  unfold dueStep
  rw [h2]
theorem due_some {row fit G fs : List Int} {n : Int} (h : fs = firstsL row fit G n) (h1 : decide (fs = []) = false) : dueStep row fit G n = G ++ G.map (Builtin.bitXor (fs.getD (0 : Int).toNat 0)) := by
  cases fs with
  | nil => exact absurd rfl (of_decide_eq_false h1)
  | cons a l =>
    unfold dueStep
    rw [← h]
    rfl
theorem at_zero {fs : List Int} (h1 : decide (fs = []) = false) : At 0 fs.length := by
  cases fs with
  | nil => exact absurd rfl (of_decide_eq_false h1)
  | cons a l => exact ⟨Int.le_refl _, by simp only [List.length_cons]; omega⟩
theorem firsts_len (row fit G : List Int) (n : Int) : (firstsL row fit G n).length ≤ row.length := by
  unfold firstsL
  refine Nat.le_trans (List.length_filter_le ..) ?_
  simp only [List.length_take, List.length_drop]
  omega
theorem dueStep_len (row fit G : List Int) (n : Int) : (dueStep row fit G n).length ≤ 2 * G.length := by
  unfold dueStep
  split
  · omega
  · simp only [List.length_append, List.length_map]; omega
theorem dueFold_len (row fit : List Int) : ∀ (l G : List Int), (l.foldl (dueStep row fit) G).length ≤ 2 ^ l.length * G.length
  | [], G => by simp
  | n :: l, G => by
    rw [List.foldl_cons, List.length_cons, Nat.pow_succ]
    have h1 := dueFold_len row fit l (dueStep row fit G n)
    have h2 := dueStep_len row fit G n
    calc _ ≤ _ := h1
      _ ≤ 2 ^ l.length * (2 * G.length) := Nat.mul_le_mul_left _ h2
      _ = _ := by rw [Nat.mul_assoc]
theorem due_small {row fit : List Int} {i : Nat} {n : Int} (h : [(1 : Int), 2, 4, 8][i]? = some n) : ((([(1 : Int), 2, 4, 8].take i).foldl (dueStep row fit) (row.take 1)).length ≤ 8) ∧ (1 ≤ n ∧ n ≤ 8) := by
  have hi : i < 4 := (List.getElem?_eq_some_iff.mp h).1
  refine ⟨?_, ?_⟩
  · have h1 := dueFold_len row fit ([(1 : Int), 2, 4, 8].take i) (row.take 1)
    have h2 : (row.take 1).length ≤ 1 := by simp; omega
    have h3 : ([(1 : Int), 2, 4, 8].take i).length ≤ 3 := by simp; omega
    have h4 := Nat.pow_le_pow_right (show 0 < 2 by decide) h3
    calc _ ≤ _ := h1
      _ ≤ 2 ^ 3 * 1 := Nat.mul_le_mul h4 h2
  · have h1 : n ∈ [(1 : Int), 2, 4, 8] := List.mem_of_getElem? h
    simp only [List.mem_cons, List.not_mem_nil, or_false] at h1
    omega
noncomputable def In12 (l : List Int) : Prop := ∀ r ∈ l, 0 ≤ r ∧ r < 4096
theorem firsts_mem {row fit G : List Int} {n a : Int} (h : a ∈ firstsL row fit G n) : a ∈ row := List.mem_of_mem_drop (List.mem_of_mem_take (List.mem_filter.mp h).1)
theorem dueStep_in {row fit G : List Int} {n : Int} (hr : In12 row) (hG : In12 G) : In12 (dueStep row fit G n) := by
  unfold dueStep
  split
  · exact hG
  · rename_i a l e
    have ha := hr a (firsts_mem (fit := fit) (G := G) (n := n) (by rw [e]; exact .head _))
    intro r hr'
    rcases List.mem_append.mp hr' with h | h
    · exact hG r h
    · obtain ⟨b, hb, rfl⟩ := List.mem_map.mp h
      exact xor_in ha (hG b hb)
theorem dueFold_in {row fit : List Int} (hr : In12 row) : ∀ (l G : List Int), In12 G → In12 (l.foldl (dueStep row fit) G)
  | [], _, h => h
  | _ :: l, _, h => dueFold_in hr l _ (dueStep_in hr h)
/-- what _law_due gives: its groups, put in order -/
noncomputable def DueOf (fit rs out : List Int) : Prop :=
  ∃ row : List Int, row.Perm rs ∧ row.Pairwise (fun x y => numL x ≤ numL y) ∧ out.Perm ([(1 : Int), 2, 4, 8].foldl (dueStep row fit) (row.take 1)) ∧ out.Pairwise (fun x y => numL x ≤ numL y)
theorem pickStep_len (p : Int → Bool) (acc : List Int) (n : Int) : (pickStep p acc n).length ≤ acc.length + 1 := by
  unfold pickStep
  split
  · simp
  · omega
theorem pick_fold (p : Int → Bool) : ∀ (l acc : List Int), l.foldl (pickStep p) acc = acc ++ l.filter p
  | [], acc => by simp
  | n :: l, acc => by
    rw [List.foldl_cons, pick_fold p l]
    unfold pickStep
    by_cases h : p n = true
    · rw [if_pos h, List.filter_cons_of_pos h, List.append_assoc]; rfl
    · rw [if_neg h, List.filter_cons_of_neg h]
noncomputable def signL (c e : UInt8) : List Int := b64L.take 62 ++ [(c.toNat : Int), (e.toNat : Int)]
theorem sign_len (c e : UInt8) : (signL c e).length = 64 := rfl
theorem sign_getD (c e : UInt8) {i : Int} (h : 0 ≤ i ∧ i < 64) : (signL c e).getD i.toNat 0 = sg c.toNat e.toNat i := by
  unfold sg signL
  by_cases h1 : i = 62
  · subst h1; rfl
  · by_cases h2 : i = 63
    · subst h2; rfl
    · rw [if_neg h1, if_neg h2]
      unfold dig
      have e1 : (b64L.take 62).length = 62 := rfl
      rw [List.getD_eq_getElem?_getD, List.getD_eq_getElem?_getD, List.getElem?_append_left (by rw [e1]; omega), List.getElem?_take_of_lt (by omega)]
theorem sign_c {prog : Program} {w : World} {A : Around} {E : Value → Shared → Prop} {h : Heap} {g : Array GenState} {d : Drawn} {tk : Nat} {o : OsState} {Q : Value → Shared → Prop} {b : Array UInt8} {t u : Tok} {c e : UInt8} (hb : KBw.bInts b = b64L.take 62)
    (H : ∀ r t' k, KBw.bInts r = signL c e → Q (.bytes r t') ⟨h, g, d, k, o⟩) : wpAny (model prog w) A (binaryOp .Add (.bytes b t) (.bytes #[c, e] u)) Q E ⟨h, g, d, tk, o⟩ :=
  KBa.add_K hb (show KBw.bInts #[c, e] = [(c.toNat : Int), (e.toNat : Int)] from rfl) (Nat.le_of_ble_eq_true rfl) fun t' k hk => H _ t' k hk
theorem sign_at {prog : Program} {w : World} {A : Around} {E : Value → Shared → Prop} {h : Heap} {g : Array GenState} {d : Drawn} {tk : Nat} {o : OsState} {Q : Value → Shared → Prop} {b : Array UInt8} {t u : Tok} {c e : UInt8} {i : Int} {value slice : Expr} (hb : KBw.bInts b = signL c e) (hi : 0 ≤ i ∧ i < 64)
    (H : ∀ t' k, Q (.int (sg c.toNat e.toNat i) t') ⟨h, g, d, k, o⟩)
    (hs : subscripted slice false (.bytes b t) (.int i u) = operate [.bytes b t, .int i u] (getItem (.bytes b t) (.int i u)) := by with_unfolding_all rfl)
    (ht : ∀ r, letTemporaryGo value (.bytes b t) r = pure () := by intro _; with_unfolding_all rfl) : wpAny (model prog w) A (subscriptTail value slice (.bytes b t) (.int i u)) Q E ⟨h, g, d, tk, o⟩ :=
  KBw.item_K hb (by rw [sign_len]; decide) hi.1 (by rw [sign_len]; omega) (fun t' k _ _ => by rw [sign_getD c e hi]; exact H t' k) hs ht
theorem lines3_Due : True := by
  k_with "binaryOp Add bytes bytes" => ((k_here; k_dflt (refine' sign_c ?b_kw (fun _ _ _ _ => ?_); (case b_kw => (show KBw.bInts _ = _; decide +kernel)))))
  k_with "subscriptTail" => ((k_here; (with_reducible show wpAny _ _ (subscriptTail _ _ (Value.bytes _ _) (Value.int _ _)) _ _ _); k_dflt (refine' sign_at ?b_kw ?i_kw (fun _ _ => ?_) ?s_kw ?t_kw; (case b_kw => with_reducible assumption); (case i_kw => (constructor <;> omega)); (case s_kw => with_unfolding_all rfl); (case t_kw => (intro _; with_unfolding_all rfl)))))
  k_with "compareOp Gt ref ref" => ((k_here; k_dflt (refine' gt_lists ?a_kw ?b_kw ?c_kw ?d_kw ?u_kw ?_; (case a_kw => kmk_list); (case b_kw => kmk_list); (case c_kw => (first | with_reducible assumption | exact .cons _ _ (.cons _ _ .nil))); (case d_kw => (first | with_reducible assumption | exact .cons _ _ (.cons _ _ .nil))); (case u_kw => ktr_units))))
  k_with "compareOp Lt ref ref" => ((k_here; k_dflt (refine' lt_lists ?a_kw ?b_kw ?c_kw ?d_kw ?u_kw ?_; (case a_kw => kmk_list); (case b_kw => kmk_list); (case c_kw => (first | with_reducible assumption | exact .cons _ _ (.cons _ _ .nil))); (case d_kw => (first | with_reducible assumption | exact .cons _ _ (.cons _ _ .nil))); (case u_kw => ktr_units))))
  k_with "eval ListComp" => ((k_here; (with_reducible show wpAny _ _ (eval (Expr.ListComp _ [⟨Expr.Name (Str.ofString "one") _, _, _, _⟩] _ _) _) _ _ _); refine hold ?_))
  trivial
theorem lim_in {l : List Int} (h : LimOk l) {n : Int} (hn : n ∈ l) : 0 ≤ n ∧ n < 64 := by
  cases h with
  | one a => simp only [List.mem_cons, List.not_mem_nil, or_false] at hn; subst hn; exact a
  | two a b =>
    simp only [List.mem_cons, List.not_mem_nil, or_false] at hn
    rcases hn with rfl | rfl
    · exact a
    · exact b
theorem lines4_Due : True := by
  k_with "isTrue BoolOp" => ((k_here; (with_reducible show wpAny _ _ (isTrue (Expr.BoolOp BoolOp.Or [_, _] _) _ _) _ _ _); refine hold ?_))
  k_with "exec For Name Tuple cons nil" => ((k_here; refine hold ?_))
  trivial
set_option maxRecDepth 100000 in
set_option maxHeartbeats 8000000 in
theorem due_spec (w : World) (lr ll : Addr) (c e : UInt8) (u v : Tok) (vs ws : List Value) (rs lim : List Int) (side : Int) (hv : IntsAre vs rs) (hw : IntsAre ws lim) (hsz : rs.length ≤ 16) (hrb : ∀ r ∈ rs, 0 ≤ r ∧ r < 4096) (hlk : LimOk lim) : FnP w 148 9 [.ref lr, .ref ll, .bytes #[c, e] u, .int side v] (fun h => h.IsList lr vs.toArray ∧ h.IsList ll ws.toArray) (fun _ v h' => ∃ D ks out, v = .ref D ∧ h'.IsList D ks.toArray ∧ IntsAre ks out ∧ DueOf (rs.filter (dueFit c e lim side)) rs out) := by
  unfold FnP
  k_fill
  intro p loose mean mg mb base outer dp un gd s Q E B X T hd hu hpre hret
  refine wpAny_call ?_
  k_dflt (refine' enterC (binds := [(Str.ofString "rights", .ref lr), (Str.ofString "limit", .ref ll), (Str.ofString "pair", .bytes #[c, e] u), (Str.ofString "side", .int side v)]) ?k1 ?k3 ?k5 ?k6 ?k7 ?k8 ?k9 ?kB ?kD ?_ ?c2 ?c3 ?c4; (case k1 => exact B); (case k3 => exact X); (case k5 => exact T); (case k6 => k_is); (case k7 => k_is); (case k8 => ktr_room); (case k9 => exact BindsTo.of_eq rfl); (case kB => exact rfl); (case kD => decide +kernel); (case c2 => exact rfl); (case c3 => exact rfl); (case c4 => exact rfl); k_whole; intro L' h' tk' cells' F' N' Y'; (try dsimp only); (try k_fold))
  have hY := CellsAre.four Y'
  obtain ⟨o1, o2, o3, o4, hE', d1, d2, d3, d4⟩ := hY
  subst hE'
  clear Y'
  replace d1 : o1.data = .cell none := d1
  replace d2 : o2.data = .cell none := d2
  replace d3 : o3.data = .cell none := d3
  replace d4 : o4.data = .cell none := d4
  replace F' : Fr s.heap L' h' (fun z => if z = Str.ofString "side" then some (.int side v) else if z = Str.ofString "pair" then some (.bytes #[c, e] u) else if z = Str.ofString "limit" then some (.ref ll) else if z = Str.ofString "rights" then some (.ref lr) else none) := F'
  have hlen := hv.length
  obtain ⟨hp1, hp2⟩ := hpre
  k_steps
  unfold Hold
  refine src_map (vs := ws) (ns := lim) (fun n y => ∃ t, y = .int (sg c.toNat e.toNat n) t) rfl (by k_asm) (by k_asm) (.inl hp2) hw (by cases hlk <;> simp) ?t1 ?f1
  case t1 =>
    intro n t I oI C oC D m₂ ys h tk E' hn hC hx F N o3 ne
    have q1 := lim_in hlk hn
    k_steps
    all_goals exact ⟨_, _, rfl, fun _ _ e => e, _, rfl⟩
  case f1 =>
    intro ys hh hl hR
    have hE := ints_map (sg c.toNat e.toNat) hl hR
    clear hR
    k_steps
    rename_i r tS kS hr h3 oS dS D2 h2 tk2 off2 Dk h1 lk h8 oF F8 N8 dF
    unfold Hold
    have hoD : ∀ p ∈ [(D2, LCg.lst ys), (L' + 1 + 1 + 1 + 1, o1), (L' + 1 + 1 + 1, o2), (L' + 1 + 1, oF), (L' + 1, oS)], p.1 ≠ Dk := by k_all
    refine for_local (x := Str.ofString "one") (y := Str.ofString "word") (ns := rs) (pickStep (dueFit c e lim side)) rfl F8 N8 hoD (.inl hp1) hv rfl rfl ?hev ?turn ?done (pickStep_len _) (fun _ => rfl) (by passes_own)
    case hev =>
      intro Q' hQ'
      exact wpAny_Name (wpAny_loadName_local rfl rfl F8.ns rfl hQ') (by decide)
    case turn =>
      intro n u2 v2 h tk own' ks kd acc hn hal hks hsub hoffD F N
      (try clear N8); (try clear F8); (try clear lk); (try clear off2); (try clear hoD)
      have q1 := hrb n hn
      have N2 : News s.heap L' h ((Dk, W.listOf ks.toArray kd) :: (D2, LCg.lst ys) :: (L' + 1 + 1 + 1 + 1, o1) :: (L' + 1 + 1 + 1, o2) :: (L' + 1 + 1, oF) :: (L' + 1, oS) :: own') := News.pick N (List.forall_mem_cons.mpr ⟨.head _, List.forall_mem_cons.mpr ⟨.tail _ (hsub _ (by k_mem)), List.forall_mem_cons.mpr ⟨.tail _ (hsub _ (by k_mem)), List.forall_mem_cons.mpr ⟨.tail _ (hsub _ (by k_mem)), List.forall_mem_cons.mpr ⟨.tail _ (hsub _ (by k_mem)), List.forall_mem_cons.mpr ⟨.tail _ (hsub _ (by k_mem)), fun p hp => .tail _ hp⟩⟩⟩⟩⟩⟩)
      clear N
      k_steps
      unfold Hold
      refine istrue_c (dueFit c e lim side n) ?dw1 (fun kW => ?dw2)
      case dw1 =>
        refine isTrue_or ?_
        k_steps
        all_goals first
          | exact gotb (due_yes (by first | exact .inl ⟨by assumption, by assumption⟩ | exact .inr ⟨by assumption, by assumption⟩))
          | exact gotb (due_no (by rintro (⟨x1, x2⟩ | ⟨x1, x2⟩) <;> contradiction))
          | (exfalso; omega)
      case dw2 =>
        cases hb : dueFit c e lim side n
        · k_steps
          show GrowL s.heap L' Dk _ _ _ own' _ _ _ _
          refine ⟨_, _, ks, kd, _, rfl, by with_reducible assumption, ?_, rfl, News.pick (by with_reducible assumption) (List.forall_mem_cons.mpr ⟨by k_mem, fun p hp => .tail _ (.tail _ (.tail _ (.tail _ (.tail _ (.tail _ (.tail _ hp))))))⟩), ?_⟩
          · intro z z1 z2; simp only [if_neg z1, if_neg z2]
          · rw [show pickStep (dueFit c e lim side) acc n = acc from if_neg (by rw [hb]; decide)]
            exact hks
        · k_steps
          unfold Hold
          refine app_c own' (by k_asm) (by k_asm) (by k_mem) (fun p hp => .tail _ (.tail _ (.tail _ (.tail _ (.tail _ (.tail _ (.tail _ hp))))))) hoffD (by have := hks.length; omega) (fun h9 F9 N9 => ?_)
          k_steps
          show GrowL s.heap L' Dk _ _ _ own' _ _ _ _
          refine ⟨_, _, ks ++ [.int n u2], kd + 1, _, rfl, by with_reducible assumption, ?_, rfl, N9, ?_⟩
          · intro z z1 z2; simp only [if_neg z1, if_neg z2]
          · rw [show pickStep (dueFit c e lim side) acc n = acc ++ [n] from if_pos hb]
            exact ints_snoc hks _ _
    case done =>
      intro v1 v2 h' tk' ks kd F N hks
      rw [pick_fold, List.nil_append] at hks
      (try clear N8); (try clear F8); (try clear hoD)
      replace F : Fr s.heap L' h' _ := F
      replace N : News s.heap L' h' _ := N
      k_steps
      unfold Hold
      refine sorted_num B F N X T rfl rfl (hp1.at fun o e => F.keep _ o e) hv hrb (by omega) (by omega) (by omega) ?_
      intro D3 vs3 row c3 h' tk' F N l1 hrow hperm hord
      replace l1 := Apart.mk (off1_of fun p hp => Nat.ne_of_lt (l1 p hp))
      have hrl : row.length = rs.length := hperm.length_eq
      k_steps
      rename_i h4 tk4 t4 k4 Dg ws4 h5 hG0 hGc hGl lg h6 oG F6 N6 dG
      unfold Hold
      have M6 : News s.heap L' h6 ((L' + 1 + 1 + 1, oG) :: (L' + 1 + 1 + 1 + 1, o1) :: (Dg, W.listOf ws4.toArray 0) :: [(D3, W.listOf vs3.toArray c3), (Dk, W.listOf ks.toArray kd), (L' + 1 + 1, oF)]) := News.pick N6 (List.forall_mem_cons.mpr ⟨by k_mem, List.forall_mem_cons.mpr ⟨by k_mem, List.forall_mem_cons.mpr ⟨by k_mem, List.forall_mem_cons.mpr ⟨by k_mem, List.forall_mem_cons.mpr ⟨by k_mem, List.forall_mem_cons.mpr ⟨by k_mem, List.forall_mem_nil _⟩⟩⟩⟩⟩⟩)
      have offg : ∀ p ∈ [(D3, W.listOf vs3.toArray c3), (Dk, W.listOf ks.toArray kd), (L' + 1 + 1, oF)], p.1 ≠ L' + 1 + 1 + 1 := by k_all
      have offf : ∀ p ∈ [(D3, W.listOf vs3.toArray c3), (Dk, W.listOf ks.toArray kd), (L' + 1 + 1, oF)], p.1 ≠ L' + 1 + 1 + 1 + 1 := by k_all
      have og1 : Dg ≠ L' + 1 + 1 + 1 := by k_ne
      have og2 : Dg ≠ L' + 1 + 1 + 1 + 1 := by k_ne
      clear N6 lg l1
      refine for_tup' (h₀ := s.heap) (m := fun y => if y = Str.ofString "row" then some (.ref D3) else if y = Str.ofString "one" then v1 else if y = Str.ofString "word" then v2 else if y = Str.ofString "ends" then some (.ref D2) else if y = Str.ofString "side" then some (.int side v) else if y = Str.ofString "pair" then some (.bytes #[c, e] u) else if y = Str.ofString "limit" then some (.ref ll) else if y = Str.ofString "rights" then some (.ref lr) else none) (x := Str.ofString "size") (cg := L' + 1 + 1 + 1) (cf := L' + 1 + 1 + 1 + 1) (kd := 0) (own := [(D3, W.listOf vs3.toArray c3), (Dk, W.listOf ks.toArray kd), (L' + 1 + 1, oF)]) (G₀ := row.take 1) [1, 2, 4, 8] (dueStep row (rs.filter (dueFit c e lim side))) rfl dG d1 hG0 og1 og2 offg offf rfl rfl ?hev ?turn ?done (fun _ => rfl) (by passes_own)
      case hev =>
        k_steps
        show TupAt s.heap L' _ [1, 2, 4, 8] _ _ _ _
        exact .mk (by with_reducible assumption) (by with_reducible assumption) (by k_all) (.cons _ _ (.cons _ _ (.cons _ _ (.cons _ _ .nil))))
      case turn =>
        intro i n u2 h tk own' G hi hG hsub hog hof F GA
        (try clear offg offf og1 og2 F6 M6)
        have hsm := due_small (row := row) (fit := rs.filter (dueFit c e lim side)) hi
        rw [← hG] at hsm
        clear hG
        obtain ⟨oG2, oF2, DG, ks5, kd5, v5, q1, q2, q3, q4, q5, N⟩ := GA
        obtain ⟨hGl, hn1, hn2⟩ := hsm
        replace F : Fr s.heap L' h _ := F
        have N2 : News s.heap L' h ((L' + 1 + 1 + 1, oG2) :: (L' + 1 + 1 + 1 + 1, oF2) :: (DG, W.listOf ks5.toArray kd5) :: (D3, W.listOf vs3.toArray c3) :: (Dk, W.listOf ks.toArray kd) :: (L' + 1 + 1, oF) :: own') := News.pick N (List.forall_mem_cons.mpr ⟨.head _, List.forall_mem_cons.mpr ⟨.tail _ (.head _), List.forall_mem_cons.mpr ⟨.tail _ (.tail _ (.head _)), List.forall_mem_cons.mpr ⟨.tail _ (.tail _ (.tail _ (hsub _ (by k_mem)))), List.forall_mem_cons.mpr ⟨.tail _ (.tail _ (.tail _ (hsub _ (by k_mem)))), List.forall_mem_cons.mpr ⟨.tail _ (.tail _ (.tail _ (hsub _ (by k_mem)))), fun p hp => .tail _ (.tail _ (.tail _ hp))⟩⟩⟩⟩⟩⟩)
        clear N
        k_steps
        unfold Hold
        refine listcomp_cell (h₀ := s.heap) F (by with_unfolding_all rfl) rfl rfl (by decide) (by decide) (by intros; rfl) (by decide) ?_ (fun _ => rfl)
        k_steps
        rename_i t7 k7 t8 k8 D7 ws7 h7 F7 N7 hI7 hC7 hL7 l7
        refine ⟨D7, ws7, _, _, fun x => decide (G.filter (fun o => !((rs.filter (dueFit c e lim side)).any (· == Builtin.bitXor x o))) = []), rfl, rfl, F7, N7, .inr ⟨_, .head _, rfl, _, rfl⟩, hI7, by omega, ?turn2, ?fin2⟩
        case turn2 =>
          intro x u3 cc oc C oC I oI D oD h tk E' hx hoc F N
          clear F7 N7 l7 hsub hog hof
          k_steps
          unfold Hold
          refine src_filter (vs := ks5) (ns := G) (fun o => !((rs.filter (dueFit c e lim side)).any (· == Builtin.bitXor x o))) rfl (by k_asm) (by k_asm) (.inr ⟨_, (by k_mem : (DG, _) ∈ _), rfl, _, rfl⟩) q3 (by omega) ?t6 ?e6 ?f6
          case t6 =>
            intro y t I oI C oC D₂ m₂ ys₂ h tk E' ho hC hx F N o3 ne
            have hL := list_of N (vs := ks) (by k_mem)
            k_steps
            all_goals exact ⟨_, _, rfl, fun _ _ e => e, rfl⟩
          case e6 =>
            intro y t I oI C oC D₂ m₂ ys₂ h tk E' ho hC hx F N o3 ne
            k_steps
            all_goals exact ⟨_, _, rfl, fun _ _ e => e, _, rfl⟩
          case f6 =>
            intro ys6 hh6 h6'
            k_steps
            show LeftK s.heap L' _ _ _ _ _ _
            exact ⟨_, _, rfl, by with_reducible assumption, News.pick (by with_reducible assumption) (fun p hp => .tail _ (.tail _ hp)), rfl⟩
        case fin2 =>
          intro ys9 D9 h9 tk9 hy F N off9
          replace off9 := Apart.mk off9
          clear F7 N7
          obtain ⟨fs, hfs⟩ : ∃ fs, fs = firstsL row (rs.filter (dueFit c e lim side)) G n := ⟨_, rfl⟩
          replace hy : IntsAre ys9 fs := hfs ▸ hy
          have hfl : fs.length ≤ 16 := by rw [hfs]; exact Nat.le_trans (firsts_len ..) (by omega)
          refine cell_c (h₀ := s.heap) ((D9, LCg.lst ys9) :: (L' + 1 + 1 + 1, oG2) :: (DG, W.listOf ks5.toArray kd5) :: own') rfl rfl rfl F N (by k_mem) q2 (List.forall_mem_cons.mpr ⟨by k_mem, List.forall_mem_cons.mpr ⟨by k_mem, List.forall_mem_cons.mpr ⟨by k_mem, fun p hp => .tail _ (.tail _ (.tail _ (.tail _ (.tail _ (.tail _ (.tail _ (.tail _ hp)))))))⟩⟩⟩) (List.forall_mem_cons.mpr ⟨by k_ne, List.forall_mem_cons.mpr ⟨by k_ne, List.forall_mem_cons.mpr ⟨q5, hof⟩⟩⟩) (fun h' o' F dF N => ?_)
          replace F : Fr s.heap L' h' _ := F
          replace N : News s.heap L' h' _ := N
          clear hC7 hL7 hI7 l7
          k_steps
          · show GroupEnd s.heap L' _ _ _ _ _ _ _ _
            refine ⟨_, _, rfl, by with_reducible assumption, rfl, oG2, o', DG, ks5, kd5, _, q1, dF, ?_, q4, q5, News.pick (by with_reducible assumption) (List.forall_mem_cons.mpr ⟨by k_mem, List.forall_mem_cons.mpr ⟨by k_mem, List.forall_mem_cons.mpr ⟨by k_mem, fun p hp => .tail _ (.tail _ (.tail _ (.tail _ (.tail _ hp))))⟩⟩⟩)⟩
            rw [due_nil hfs (by with_reducible assumption)]
            exact q3
          · unfold Hold
            have hAt := at_zero (fs := fs) (by with_reducible assumption)
            refine src_map (vs := ks5) (ns := G) (fun y v => ∃ t, v = .int (Builtin.bitXor (fs.getD (0 : Int).toNat 0) y) t) rfl (by k_asm) (by k_asm) (.inr ⟨_, (by k_mem : (DG, _) ∈ _), rfl, _, rfl⟩) q3 (by omega) ?t8 ?f8
            case t8 =>
              intro y t I oI C oC D₂ m₂ ys₂ h tk E' ho hC hx F N o3 ne
              have hL := list_of N (vs := ys9) (by k_mem)
              k_steps
              all_goals exact ⟨_, _, rfl, fun _ _ e => e, _, rfl⟩
            case f8 =>
              intro ys8 hh8 hl8 hR8
              have hX8 := ints_map (Builtin.bitXor (fs.getD (0 : Int).toNat 0)) hl8 hR8
              clear hR8
              k_steps
              rename_i DX hX tkX offX DY wsY hY FY NY hIY lY
              refine cell_c (h₀ := s.heap) ((L' + 1 + 1 + 1 + 1, o') :: (DY, W.listOf wsY.toArray 0) :: own') rfl rfl rfl FY NY (by k_mem) q1 (List.forall_mem_cons.mpr ⟨by k_mem, List.forall_mem_cons.mpr ⟨by k_mem, fun p hp => .tail _ (.tail _ (.tail _ (.tail _ (.tail _ (.tail _ (.tail _ hp))))))⟩⟩) (List.forall_mem_cons.mpr ⟨by k_ne, List.forall_mem_cons.mpr ⟨by k_ne, hog⟩⟩) (fun hZ oZ FZ dZ NZ => ?_)
              replace FZ : Fr s.heap L' hZ _ := FZ
              replace NZ : News s.heap L' hZ _ := NZ
              have e1 : DY ≠ L' + 1 + 1 + 1 := by k_ne
              have e2 : DY ≠ L' + 1 + 1 + 1 + 1 := by k_ne
              clear lY FY NY
              k_steps
              show GroupEnd s.heap L' _ _ _ _ _ _ _ _
              refine ⟨_, _, rfl, FZ, rfl, oZ, o', DY, wsY, 0, _, dZ, dF, ?_, e1, e2, NZ⟩
              rw [due_some hfs (by with_reducible assumption)]
              exact hIY
      case done =>
        intro u2 h' tk' F GA
        obtain ⟨oG2, oF2, DG, ks5, kd5, v5, q1, q2, q3, q4, q5, N⟩ := GA
        replace F : Fr s.heap L' h' _ := F
        replace N : News s.heap L' h' _ := N
        k_steps
        unfold Hold
        have hrin : In12 row := fun r hr => hrb r (hperm.mem_iff.mp hr)
        have hin := dueFold_in (fit := rs.filter (dueFit c e lim side)) hrin [1, 2, 4, 8] (row.take 1) fun r hr => hrin r (List.mem_of_mem_take hr)
        have hlen5 := dueFold_len row (rs.filter (dueFit c e lim side)) [1, 2, 4, 8] (row.take 1)
        have hlen6 : (row.take 1).length ≤ 1 := by simp only [List.length_take]; omega
        refine sorted_num B F N X T rfl rfl (list_of N (vs := ks5) (n := kd5) (by k_mem)) q3 hin (by simp only [List.length_cons, List.length_nil] at hlen5; omega) (by omega) (by omega) ?_
        intro DZ vsZ out cZ h' tk' F N l1 hout hp ho
        k_steps
        exact hret _ _ _ F.keep ⟨DZ, vsZ, out, rfl, list_of N (by k_mem), hout, row, hperm, hord, hp, ho⟩
end Mine
end
section
open PySem PySem.W PyProof.Rows PySem.Calls
set_option maxRecDepth 100000
namespace Mine
theorem ints_some : ∀ {l : List Value}, (∀ v ∈ l, ∃ n t, v = Value.int n t) → ∃ ms, IntsAre l ms
  | [], _ => ⟨[], .nil⟩
  | v :: l, h => by
    obtain ⟨n, t, rfl⟩ := h v (.head _)
    obtain ⟨ms, hm⟩ := ints_some (l := l) fun v hv => h v (.tail _ hv)
    exact ⟨n :: ms, IntsAre.cons _ _ hm⟩
theorem ints_mem {vs : List Value} {ns : List Int} (h : IntsAre vs ns) : ∀ v ∈ vs, ∃ n t, v = Value.int n t := by
  induction h with
  | nil => intro v hv; cases hv
  | cons x u _ ih =>
    intro v hv
    rcases List.mem_cons.mp hv with rfl | hv
    · exact ⟨_, _, rfl⟩
    · exact ih v hv
theorem pick_ints {vs : List Value} {ns : List Int} (h : IntsAre vs ns) (lo hi st : Option Int) : ∃ ms, IntsAre (slicePick vs.toArray lo hi st).toList ms := by
  refine ints_some fun v hv => ints_mem h v ?_
  unfold slicePick at hv
  rw [List.toList_toArray] at hv
  obtain ⟨i, _, e⟩ := List.mem_filterMap.mp hv
  rw [List.getElem?_toArray] at e
  exact List.mem_of_getElem? e
section
variable {prog : Program} {w : World} {A : Around} {E : Value → Shared → Prop} {s : Shared} {h₀ : Heap} {L l : Addr} {m : Str → Option Value} {news : List (Addr × Obj)} {vs : List Value} {ns : List Int} {Q : Value → Shared → Prop}
theorem slice3_c {value slice : Expr} {vl vu vk : Value} {lo hi st : Option Int} {ops : List Value} (F : Fr h₀ L s.heap m) (N : News h₀ L s.heap news) (hl : s.heap.IsList l vs.toArray) (hi' : IntsAre vs ns) (hz : ns.length ≤ 64) (pl : IsPart vl lo) (pu : IsPart vu hi) (pk : IsPart vk st) (h0 : st ≠ some 0)
    (h : ∀ D ws ms h', Fr h₀ L h' m → News h₀ L h' ((D, W.listOf (List.toArray ws) 0) :: news) → (∀ p ∈ news, p.1 < D) → IntsAre ws ms → Q (.ref D) { s with heap := h' })
    (hs : subscripted slice false (.ref l) (.ref s.heap.objs.size) = operate ops (getItem (.ref l) (.ref s.heap.objs.size))) (ht : ∀ r, letTemporaryGo value (.ref l) r = pure ()) :
    wpAny (model prog w) A (subscriptTail value slice (.ref l) (.ref s.heap.objs.size)) Q E { s with heap := s.heap.push { cls := .type "slice", data := .fields #[vl, vu, vk] } } := by
  obtain ⟨ms, hm⟩ := pick_ints hi' lo hi st
  refine slice_list3 F N hl pl pu pk h0 (fun h' F' N' => h _ (slicePick vs.toArray lo hi st).toList ms h' F' ?_ (fun p hp => Nat.lt_succ_of_lt (Heap.lt_size (N p hp).1)) hm) hs ht (by rw [List.size_toArray, hi'.length, sizeLine_eq]; omega)
  rw [Array.toArray_toList]
  exact N'
theorem slice3_e {h : Heap} {g : Array GenState} {d : Drawn} {tk : Nat} {o : OsState} {value slice : Expr} {vl vu vk : Value} {lo hi st : Option Int} {ops : List Value} (F : Fr h₀ L h m) (N : News h₀ L h news) (hl : h.IsList l vs.toArray) (hi' : IntsAre vs ns) (hz : ns.length ≤ 64) (pl : IsPart vl lo) (pu : IsPart vu hi) (pk : IsPart vk st) (h0 : st ≠ some 0)
    (H : ∀ D ws ms h', Fr h₀ L h' m → News h₀ L h' ((D, W.listOf (List.toArray ws) 0) :: news) → (∀ p ∈ news, p.1 < D) → IntsAre ws ms → Q (.ref D) ⟨h', g, d, tk, o⟩)
    (hs : subscripted slice false (.ref l) (.ref h.objs.size) = operate ops (getItem (.ref l) (.ref h.objs.size))) (ht : ∀ r, letTemporaryGo value (.ref l) r = pure ()) :
    wpAny (model prog w) A (subscriptTail value slice (.ref l) (.ref h.objs.size)) Q E ⟨h.push { cls := .type "slice", data := .fields #[vl, vu, vk] }, g, d, tk, o⟩ :=
  slice3_c (s := ⟨h, g, d, tk, o⟩) F N hl hi' hz pl pu pk h0 H hs ht
/-- a display cut above -/
theorem slice_up {h : Heap} {g : Array GenState} {d : Drawn} {tk : Nat} {o : OsState} {value slice : Expr} {y : Int} {ty : Tok} {ops : List Value} (F : Fr h₀ L h m) (N : News h₀ L h news) (hl : h.IsList l vs.toArray) (hi : IntsAre vs ns) (hz : ns.length ≤ 64) (hy : 0 ≤ y)
    (H : ∀ D ws h', Fr h₀ L h' m → News h₀ L h' ((D, W.listOf (List.toArray ws) 0) :: news) → (∀ p ∈ news, p.1 < D) → IntsAre ws (ns.take y.toNat) → Q (.ref D) ⟨h', g, d, tk, o⟩)
    (hs : subscripted slice false (.ref l) (.ref h.objs.size) = operate ops (getItem (.ref l) (.ref h.objs.size))) :
    wpAny (model prog w) A (subscriptTail value slice (.ref l) (.ref h.objs.size)) Q E ⟨h.push { cls := .type "slice", data := .fields #[.none, .int y ty, .none] }, g, d, tk, o⟩ := by
  have hm := kmk_upto hi hy
  have N1 := News.push (F.push { cls := .type "slice", data := .fields #[.none, .int y ty, .none] }) (N.grown fun _ _ e => Heap.get?_push_of_some _ e) { cls := .type "list", data := .seq (slicePick vs.toArray none (some y) none) }
  rw [Heap.size_push] at N1
  refine tail_any (Heap.IsList.typeIs (s := ⟨h.push { cls := .type "slice", data := .fields #[.none, .int y ty, .none] }, g, d, tk, o⟩) (hl.push _)) list_getitem_lookup
    (wpAny_getItem_list_slice (s := ⟨h.push { cls := .type "slice", data := .fields #[.none, .int y ty, .none] }, g, d, tk, o⟩) (hl.push _) (Heap.IsSliceOf.new ..) .none (.int _ _) .none (by simp) ?_ (by rw [List.size_toArray, hi.length, sizeLine_eq]; omega)) hs
  show Q (.ref (h.push _).objs.size) _
  rw [Heap.size_push]
  refine H _ (slicePick vs.toArray none (some y) none).toList _ ((F.push _).push _) ?_ (fun p hp => Nat.lt_succ_of_lt (Heap.lt_size (N p hp).1)) hm
  rw [Array.toArray_toList]
  exact N1
/-- a display of three words of two letters, asked by place -/
theorem sub_pair {h : Heap} {g : Array GenState} {d : Drawn} {tk : Nat} {o : OsState} {value slice : Expr} {a0 b0 a1 b1 a2 b2 : UInt8} {t0 t1 t2 u : Tok} {k : Int} (hl : h.IsList l #[.bytes #[a0, b0] t0, .bytes #[a1, b1] t1, .bytes #[a2, b2] t2]) (hk : At k 3) (H : ∀ c e t, Q (.bytes #[c, e] t) ⟨h, g, d, tk, o⟩)
    (hs : subscripted slice false (.ref l) (.int k u) = operate [.ref l, .int k u] (getItem (.ref l) (.int k u)) := by with_unfolding_all rfl) :
    wpAny (model prog w) A (subscriptTail value slice (.ref l) (.int k u)) Q E ⟨h, g, d, tk, o⟩ := by
  have h0 := hk.lo
  have h1 := hk.hi
  have : k = 0 ∨ k = 1 ∨ k = 2 := by omega
  rcases this with rfl | rfl | rfl
  · exact sub_at (vs := [_, _, _]) hl (by decide) (by decide) rfl (H _ _ _) hs
  · exact sub_at (vs := [_, _, _]) hl (by decide) (by decide) rfl (H _ _ _) hs
  · exact sub_at (vs := [_, _, _]) hl (by decide) (by decide) rfl (H _ _ _) hs
end
section
variable {prog : Program} {w : World} {A : Around} {E : Value → Shared → Prop} {s : Shared} {env : Env} {h₀ : Heap} {m : Str → Option Value}
/-- the state of the loop that doubles the rights: the list under the name y, the cell of the step -/
inductive TwoAt (h₀ : Heap) (L cs : Addr) (x y : Str) (m : Str → Option Value) (own : List (Addr × Obj)) (P : List Int → Prop) (u : Option Value) (h : Heap) : Prop
  | mk (R D ks kd os v m') : P R → os.data = .cell v → IntsAre ks R → D ≠ cs → Fr h₀ L h m' → (∀ z, m' z = if z = x then u else if z = y then some (.ref D) else m z) → News h₀ L h ((cs, os) :: (D, W.listOf (List.toArray ks) kd) :: own) → TwoAt h₀ L cs x y m own P u h
inductive TwoEnd (h₀ : Heap) (L cs : Addr) (x y : Str) (m : Str → Option Value) (own : List (Addr × Obj)) (P : List Int → Prop) (u : Option Value) (s₁ : Shared) (f : Flow) (s₂ : Shared) : Prop
  | mk (h' tk') : s₂ = { s₁ with heap := h', toks := tk' } → f = .next → TwoAt h₀ L cs x y m own P u h' → TwoEnd h₀ L cs x y m own P u s₁ f s₂
inductive TwoTurn (h₀ : Heap) (L : Addr) (m : Str → Option Value) (s : Shared) (I T cs : Addr) (oT : Obj) (x y : Str) (ns : List Int) (P : Nat → List Int → Prop) (own : List (Addr × Obj)) (k : Nat) (s' : Shared) : Prop
  | mk (h' : Heap) (tk' i : Nat) (u : Option Value) (oI : Obj) : s' = { s with heap := h', toks := tk' } → i ≤ ns.length → k = ns.length - i → (oI.cls = .type "tuple_iterator" ∧ oI.data = .fields #[.ref T, .int (i : Nat) 0]) →
      TwoAt h₀ L cs x y m ((I, oI) :: (T, oT) :: own) (P i) u h' → TwoTurn h₀ L m s I T cs oT x y ns P own k s'
theorem for_two {Q : Flow → Shared → Prop} {x y : Str} {px pos : Pos} {iter : Expr} {body : List Stmt} {cs D₀ : Addr} {os₀ : Obj} {ks₀ : List Value} {kd₀ : Nat} {v₀ u₀ : Option Value} {own : List (Addr × Obj)} {R₀ : List Int} (ns : List Int) (P : Nat → List Int → Prop)
    (hh : A.handled = none) (hos : os₀.data = .cell v₀) (hks : IntsAre ks₀ R₀) (hDs : D₀ ≠ cs) (hP : P 0 R₀) (offs : ∀ p ∈ own, p.1 ≠ cs)
    (hx : env.kindOf x = some .local) (hp : (env.scope.kind == .class || (env.scope.kind == .module && env.locals != env.globals)) = false)
    (hev : wpAny (model prog w) A (eval iter env) (TupAt h₀ env.locals (fun z => if z = x then u₀ else if z = y then some (.ref D₀) else m z) ns ((cs, os₀) :: (D₀, W.listOf ks₀.toArray kd₀) :: own) s) E s)
    (turn : ∀ i n u h tk own' R D ks kd os v, ns[i]? = some n → P i R → os.data = .cell v → IntsAre ks R → D ≠ cs → (∀ p ∈ own, p ∈ own') → (∀ p ∈ own', p.1 ≠ cs) → Fr h₀ env.locals h (fun z => if z = x then some (.int n u) else if z = y then some (.ref D) else m z) → News h₀ env.locals h ((cs, os) :: (D, W.listOf (List.toArray ks) kd) :: own') →
      wpAny (model prog w) A (execs body env) (TwoEnd h₀ env.locals cs x y m own' (P (i + 1)) (some (.int n u)) { s with heap := h, toks := tk }) E { s with heap := h, toks := tk })
    (done : ∀ u h' tk', TwoAt h₀ env.locals cs x y m own (P ns.length) u h' → Q .next { s with heap := h', toks := tk' })
    (hs : ∀ x, foldedSetIterable iter env x = pure x := by intro _; rfl)
    (hE : PassesOwn (model prog w) A env E := by passes_own) :
    wpAny (model prog w) A (exec (.For (.Name x px) iter body [] pos) env) Q E s := by
  refine wpAny_For (wpAny_mono hev (fun xv s₁ h₁ => ?_) fun _ _ e => e) hs
  obtain ⟨F, N, lt, hi⟩ := h₁
  rename_i T hT' tkT vs
  have hoT' := (N _ (.head _)).1
  have hTL := (N _ (.head _)).2.1
  have hT0 := (N _ (.head _)).2.2
  have hT : hT'.IsTuple T vs.toArray := ⟨_, hoT', rfl, _, rfl⟩
  have hTs : T ≠ cs := (lt _ (.head _)).symm
  obtain ⟨oT, eoT⟩ : ∃ oT : Obj, oT = { cls := .type "tuple", data := .seq vs.toArray } := ⟨_, rfl⟩
  have hcT : oT.cls = .type "tuple" ∧ ∃ c, oT.data = .seq vs.toArray c := by rw [eoT]; exact ⟨rfl, _, rfl⟩
  have N0 : News h₀ env.locals hT' ((cs, os₀) :: (D₀, W.listOf ks₀.toArray kd₀) :: own) := fun p hp => N p (.tail _ hp)
  rw [← eoT] at hoT'
  refine wpAny_pyIter_tuple hT ?_
  obtain ⟨I, hI⟩ : ∃ I, I = hT'.objs.size := ⟨_, rfl⟩
  have hLs : env.locals < hT'.objs.size := F.ns.lt
  have hIL : env.locals ≠ I := by rw [hI]; exact Nat.ne_of_lt hLs
  have hI0 : h₀.get? I = none := Heap.get?_none_of_le (by rw [hI]; exact Nat.le_trans F.above (Nat.le_of_lt hLs))
  have hTI : T ≠ I := by rw [hI]; exact Nat.ne_of_lt (Heap.lt_size hoT')
  have hNI : ∀ p ∈ ((cs, os₀) :: (D₀, W.listOf ks₀.toArray kd₀) :: own), p.1 ≠ I := fun p hp => by rw [hI]; exact Nat.ne_of_lt (Heap.lt_size (N0 p hp).1)
  have hsI : cs ≠ I := hNI _ (.head _)
  have hoI : ∀ p ∈ own, p.1 ≠ I := fun p hp => hNI p (.tail _ (.tail _ hp))
  have hvl : vs.length = ns.length := hi.length
  dsimp only
  rw [← hI]
  refine codeAny_forLoop_any (R := fun r s' => match r with | .ok f => Q f s' | .error e => cameBackBy (model prog w) A env E e s')
    (TwoTurn h₀ env.locals m s I T cs oT x y ns P own) ?_ ns.length
    ⟨_, tkT, 0, u₀, { cls := .type "tuple_iterator", data := .fields #[.ref T, .int 0 0] }, rfl, Nat.zero_le _, rfl, ⟨rfl, rfl⟩, R₀, D₀, ks₀, kd₀, os₀, v₀, _, hP, hos, hks, hDs, F.push _, fun _ => rfl, fun p hp => ?_⟩
  · rintro k s' ⟨h', tk', i, u, oI, rfl, hin, rfl, hoI', R, D, ks, kd, os, v, m', hPi, e1, e3, e4, F', hm', N'⟩
    have hit : h'.IsTupleIter I T i := ⟨oI, (N' (I, oI) (.tail _ (.tail _ (.head _)))).1, hoI'⟩
    have hT' : h'.IsTuple T vs.toArray := ⟨oT, (N' (T, oT) (.tail _ (.tail _ (.tail _ (.head _))))).1, hcT⟩
    have hDI : D ≠ I := fun e => by
      have h1 := (N' (D, W.listOf ks.toArray kd) (.tail _ (.head _))).1
      have h2 := (N' (I, oI) (.tail _ (.tail _ (.head _)))).1
      rw [e, h2] at h1
      have := congrArg Obj.cls (Option.some.inj h1)
      rw [hoI'.1] at this
      exact absurd (Value.type.inj this) (by decide)
    have hNI' : ∀ p ∈ ((cs, os) :: (D, W.listOf ks.toArray kd) :: (T, oT) :: own), p.1 ≠ I := fun p hp => by
      rcases List.mem_cons.mp hp with rfl | hp
      · exact hsI
      · rcases List.mem_cons.mp hp with rfl | hp
        · exact hDI
        · rcases List.mem_cons.mp hp with rfl | hp
          · exact hTI
          · exact hoI p hp
    have Nt : News h₀ env.locals h' ((cs, os) :: (D, W.listOf ks.toArray kd) :: (T, oT) :: own) := fun p hp => N' p (by
      rcases List.mem_cons.mp hp with rfl | hp
      · exact .head _
      · rcases List.mem_cons.mp hp with rfl | hp
        · exact .tail _ (.head _)
        · exact .tail _ (.tail _ (.tail _ hp)))
    by_cases hlt : i < ns.length
    · obtain ⟨t, hvu⟩ := hi.get i ns[i] (by simp [hlt])
      refine wpAny_pyNext_tuple_item hit hT' (x := .int ns[i] t) (by simpa using hvu) fun h₁ hit₁ hs₁ => ?_
      have F₁ := fr_at F' hs₁.extBut hIL hI0
      have N₁ := news_at Nt hs₁.extBut hNI'
      show wpAny _ _ (letOwnedTupleGo (.Name x px) (.ref I) _) _ _ _
      unfold letOwnedTupleGo
      refine wpAny_pure ?_
      refine wpAny_assign_Name (wpAny_storeName_local hx F₁.ns (fun h₂ hn₂ hs₂ => ?_) hp)
      replace hs₂ : Heap.SameBut env.locals h₁ h₂ := hs₂
      have F₂ := F₁.set hn₂ hs₂
      have em : (fun z => if z = x then some (Value.int ns[i] t) else m' z) = fun z => if z = x then some (Value.int ns[i] t) else if z = y then some (.ref D) else m z := by
        funext z
        by_cases h1 : z = x
        · simp only [if_pos h1]
        · rw [hm' z]
          simp only [if_neg h1]
      have F₂' : Fr h₀ env.locals h₂ (fun z => if z = x then some (Value.int ns[i] t) else if z = y then some (.ref D) else m z) := by rw [← em]; exact F₂
      have N₂ := N₁.set hs₂
      obtain ⟨oI₂, hoI₂, hoIr⟩ := id hit₁
      have gI₂ := hs₂.extBut _ _ hIL.symm hoI₂
      have N₃ : News h₀ env.locals h₂ ((cs, os) :: (D, W.listOf ks.toArray kd) :: (I, oI₂) :: (T, oT) :: own) := fun p hp => by
        rcases List.mem_cons.mp hp with rfl | hp
        · exact N₂ _ (.head _)
        · rcases List.mem_cons.mp hp with rfl | hp
          · exact N₂ _ (.tail _ (.head _))
          · rcases List.mem_cons.mp hp with rfl | hp
            · exact ⟨gI₂, hIL.symm, hI0⟩
            · exact N₂ _ (.tail _ (.tail _ hp))
      refine wpAny_passesOwn hE ?_
      refine wpAny_mono (turn i ns[i] t h₂ _ ((I, oI₂) :: (T, oT) :: own) R D ks kd os v (by simp [hlt]) hPi e1 e3 e4 (fun p hp => .tail _ (.tail _ hp)) (fun p hp => ?_) F₂' N₃) (fun fl s₃ h₃ => ?_) fun _ _ e => e
      · rcases List.mem_cons.mp hp with rfl | hp
        · exact hsI.symm
        · rcases List.mem_cons.mp hp with rfl | hp
          · exact hTs
          · exact offs p hp
      · obtain ⟨h₃', tk₃, rfl, rfl, GA⟩ := h₃
        exact ⟨ns.length - (i + 1), by omega, h₃', tk₃, i + 1, _, oI₂, rfl, hlt, rfl, hoIr, GA⟩
    · have hie : i = ns.length := by omega
      subst hie
      refine wpAny_pyNext_tuple_end hh hit hT' (by simp [hvl]) fun h₁ hx₁ => wpAny_execs_nil ?_
      have N₁ := news_at Nt hx₁ hNI'
      exact done u h₁ tk' ⟨R, D, ks, kd, os, v, m', hPi, e1, e3, e4, fr_at F' hx₁ hIL hI0, hm', fun p hp => N₁ p (by
        rcases List.mem_cons.mp hp with rfl | hp
        · exact .head _
        · rcases List.mem_cons.mp hp with rfl | hp
          · exact .tail _ (.head _)
          · exact .tail _ (.tail _ (.tail _ hp)))⟩
  · have up : ∀ b o, hT'.get? b = some o → (hT'.push { cls := .type "tuple_iterator", data := .fields #[.ref T, .int 0 0] }).get? b = some o := fun b o e => Heap.get?_push_of_some _ e
    rcases List.mem_cons.mp hp with rfl | hp
    · exact ⟨up _ _ (N0 _ (.head _)).1, (N0 _ (.head _)).2⟩
    · rcases List.mem_cons.mp hp with rfl | hp
      · exact ⟨up _ _ (N0 _ (.tail _ (.head _))).1, (N0 _ (.tail _ (.head _))).2⟩
      · rcases List.mem_cons.mp hp with rfl | hp
        · rw [hI]; exact ⟨Heap.get?_push_size _ rfl, by rw [← hI]; exact hIL.symm, by rw [← hI]; exact hI0⟩
        · rcases List.mem_cons.mp hp with rfl | hp
          · exact ⟨up _ _ hoT', hTL, hT0⟩
          · exact ⟨up _ _ (N0 p (.tail _ (.tail _ hp))).1, (N0 p (.tail _ (.tail _ hp))).2⟩
end
end Mine
end
section
open PySem PySem.W PyProof.Rows PySem.Calls
namespace Mine
set_option pp.deepTerms false
set_option pp.maxSteps 3000
set_option maxRecDepth 100000

theorem lines1_Kept : True := by
  w_top off
  k_with_none
  k_with "eval Constant int" => ((with_reducible refine const_c ?_; intro _ _; (try dsimp only)))
  k_with "binaryOp Add int int" => ((with_reducible refine add_c ?_; intro _ _; (try dsimp only)))
  k_with "binaryOp Sub int int" => ((with_reducible refine sub_c ?_; intro _ _; (try dsimp only)))
  k_with "binaryOp BitAnd int int" => ((with_reducible refine and_c ?_; intro _ _; (try dsimp only)))
  k_with "binaryOp BitOr int int" => ((with_reducible refine or_c ?_; intro _ _; (try dsimp only)))
  k_with "binaryOp BitXor int int" => ((with_reducible refine xor_c ?_; intro _ _; (try dsimp only)))
  k_with "binaryOp Mod int int" => ((with_reducible refine mod_c (by decide) ?_; intro _ _; (try dsimp only)))
  k_with "binaryOp FloorDiv int int" => ((with_reducible refine div_c (by decide) (by decide) ?_; intro _ _; (try dsimp only)))
  k_with "binaryOp Mult int int" => ((with_reducible refine mul_c (by constructor <;> omega) (by constructor <;> omega) ?_; intro _ _; (try dsimp only)))
  k_with "binaryOp LShift int int" => ((with_reducible refine shl_c (by constructor <;> omega) (by constructor <;> omega) ?_; intro _ _; (try dsimp only)))
  k_with "binaryOp RShift int int" => ((with_reducible refine shr_c (by omega) ?_; intro _ _; (try dsimp only)))
  k_with "binaryOp Pow int int" => ((with_reducible refine pow_c (by constructor <;> omega) (by constructor <;> omega) ?_; intro _ _; (try dsimp only)))
  k_with "newList" => ((k_here; k_dflt (refine' newList_K ?k1_kw ?k2_kw ?_; (case k1_kw => k_asm); (case k2_kw => k_asm); k_whole); intro _ _ _ _ l1; replace l1 := Apart.mk (off1_of fun p hp => Nat.ne_of_lt (l1 p hp)); (try k_sweep); revert l1; intro _))
  k_with "eval ListComp" => ((k_here; first
  | (lct_look; k_dflt (refine LCt.ListComp_T (F₀ := by k_asm) (by with_unfolding_all rfl) (by decide) (by rfl) (by decide) (by rfl) ?_))
  | (k_dflt (refine LCg.ListComp_U (F₀ := by k_asm) (by with_unfolding_all rfl) (by decide) (by rfl) (by decide) (by rfl) ?_))))
  k_with "CompSrc" => ((k_here; refine hold ?_))
  k_with "CompSrcT" => ((k_here; refine hold ?_))
  k_with "call builtin:sorted" => ((k_here; refine hold ?_))
  trivial
theorem lines2_Kept : True := by
  k_with "FinE" => (((unfold LCg.FinE); intro _ _ _ _ N' o1'; replace o1' := Apart.mk o1'; (try simp only [List.nil_append, List.cons_append] at N'); (try dsimp only); revert N' o1'; intro _ _))
  k_with "FinA" => (((unfold LCg.FinA); intro _ _ _ _ N' o1'; replace o1' := Apart.mk o1'; (try simp only [List.nil_append, List.cons_append] at N'); (try dsimp only); revert N' o1'; intro _ _))
  k_with "exec For Name Name cons nil" => ((k_here; refine hold ?_))
  k_with "call builtin:list.append" => ((k_here; refine hold ?_))
  k_with "compareOp NotIn int ref" => ((k_here; k_dflt (refine notin_list_ints (by with_reducible assumption) (by with_reducible assumption) ?_)))
  k_with "call ref" => ((k_here; (with_reducible show wpAny _ _ (call (Value.ref 138) [Value.int _ _, Value.ref _, Value.bytes _ _, Value.int _ _] _) _ _ _); k_dflt (refine' FnP.use (fits_spec _ _ _ _ _ _ _ _ _ (by with_reducible assumption) (by with_reducible assumption) (by with_reducible assumption)) ?k1_kw ?k2_kw ?k3_kw ?k4_kw ?k5_kw ?k6_kw ?k7_kw ?k8_kw ?k9_kw ?kP_kw ?_; (case k1_kw => k_asm); (case k2_kw => k_asm); (case k3_kw => k_asm); (case k4_kw => k_asm); (case k5_kw => k_asm); (case k6_kw => exact rfl); (case k7_kw => exact rfl); (case k8_kw => omega); (case k9_kw => omega); (case kP_kw => with_reducible assumption)); intro _ _ _ _ _ _ hP'; subst hP'; (try dsimp only); (try k_fold)))
  k_with "call builtin:len" => ((k_here; k_dflt (refine' len_led ?N_kw ?m_kw ?e_kw ?z_kw (fun _ _ => ?_); (case N_kw => k_asm); (case m_kw => k_mem); (case e_kw => with_reducible assumption); (case z_kw => first | with_reducible assumption | omega))))
  k_with "call type:range" => ((k_here; first
  | ((with_reducible show wpAny _ _ (call _ [Value.int _ _]) _ _ _); k_dflt (refine' range1_c ?k1_kw ?k2_kw (fun r' h' t' u' v' k' F' N' l1 => ?_); (case k1_kw => k_asm); (case k2_kw => k_asm)); replace l1 := Apart.mk (off1_of fun p hp => Nat.ne_of_lt (l1 p hp)); revert l1; intro _)
  | ((with_reducible show wpAny _ _ (call _ [Value.int _ _, Value.int _ _]) _ _ _); k_dflt (refine' range2_c ?k1_kw ?k2_kw (fun r' h' t' u' v' k' F' N' l1 => ?_); (case k1_kw => k_asm); (case k2_kw => k_asm)); replace l1 := Apart.mk (off1_of fun p hp => Nat.ne_of_lt (l1 p hp)); revert l1; intro _)))
  k_with "subscriptTail" => ((k_here; (with_reducible show wpAny _ _ (subscriptTail _ _ (Value.ref _) (Value.int _ _)) _ _ _); k_dflt (first
  | (refine' sub_strs ?h1_kw ?h2_kw ?h3_kw ?h4_kw (fun t' => ?_) ?h5_kw; (case h1_kw => with_reducible assumption); (case h2_kw => with_reducible assumption); (case h3_kw => first | with_reducible assumption | omega); (case h4_kw => with_reducible assumption); (case h5_kw => with_unfolding_all rfl))
  | (refine' sub_ints ?h1_kw ?h2_kw ?h3_kw ?h4_kw (fun t' => ?_) ?h5_kw; (case h1_kw => with_reducible assumption); (case h2_kw => with_reducible assumption); (case h3_kw => first | with_reducible assumption | omega); (case h4_kw => with_reducible assumption); (case h5_kw => with_unfolding_all rfl)))))
  k_with "eval Name" => ((k_here; k_dflt (refine' free_base ?c_kw ?v_kw ?F_kw ?_ ?a_kw ?b_kw ?e_kw ?n_kw; (case b_kw => exact rfl); (case a_kw => exact rfl); (case e_kw => decide); (case n_kw => decide); (case c_kw => exact rfl); (case v_kw => with_reducible assumption); (case F_kw => k_asm))))
  k_with "call ref" => ((k_here; (with_reducible show wpAny _ _ (call (Value.ref 119) [Value.int _ _] _) _ _ _); k_dflt (refine' Fn.use (filemode_spec _ _ _ ModeIs.intro) ?k1_kw ?k2_kw ?k3_kw ?k4_kw ?k5_kw ?k6_kw ?k7_kw ?k8_kw ?k9_kw ?_; (case k1_kw => k_asm); (case k2_kw => k_asm); (case k3_kw => k_asm); (case k4_kw => k_asm); (case k5_kw => k_asm); (case k6_kw => exact rfl); (case k7_kw => exact rfl); (case k8_kw => omega); (case k9_kw => omega)); intro _ _ _ _ _ _ hP'; obtain ⟨_, e'⟩ := hP'; subst e'; (try dsimp only); (try k_fold)))
  k_with "call ref" => ((k_here; (with_reducible show wpAny _ _ (call (Value.ref 35) [Value.str _ _] _) _ _ _); k_dflt (refine' Fn.useA (strxfrm_spec _ _ _) ?k1_kw ?k2_kw ?k3_kw ?k4_kw ?k5_kw ?kH_kw ?k6_kw ?k7_kw ?k8_kw ?k9_kw ?_; (case k1_kw => first | with_reducible assumption | exact below_in1 (below_in1 (pushX (by with_reducible assumption) (by with_reducible assumption) rfl rfl))); (case k2_kw => k_asm); (case k3_kw => k_asm); (case k4_kw => k_asm); (case k5_kw => k_asm); (case kH_kw => exact rfl); (case k6_kw => exact rfl); (case k7_kw => exact rfl); (case k8_kw => ktr_room); (case k9_kw => ktr_units)); intro _ _ _ _ _ _ hP'; obtain ⟨_, e'⟩ := hP'; subst e'; (try dsimp only); (try k_fold)))
  k_with "call ref" => ((k_here; (with_reducible show wpAny _ _ (call (Value.ref 72) [Value.int _ _] _) _ _ _); k_dflt (refine' Fn.use (imode_spec _ _ _) ?k1_kw ?k2_kw ?k3_kw ?k4_kw ?k5_kw ?k6_kw ?k7_kw ?k8_kw ?k9_kw ?_; (case k1_kw => k_asm); (case k2_kw => k_asm); (case k3_kw => k_asm); (case k4_kw => k_asm); (case k5_kw => k_asm); (case k6_kw => exact rfl); (case k7_kw => exact rfl); (case k8_kw => omega); (case k9_kw => omega)); intro _ _ _ _ _ _ hP'; obtain ⟨_, e'⟩ := hP'; subst e'; (try dsimp only); (try k_fold)))
  k_with "call ref" => ((k_here; (with_reducible show wpAny _ _ (call (Value.ref 133) [Value.str _ _, Value.str _ _] _) _ _ _); k_dflt (refine' Fn.use (told_spec _ _ _ _ _) ?k1_kw ?k2_kw ?k3_kw ?k4_kw ?k5_kw ?k6_kw ?k7_kw ?k8_kw ?k9_kw ?_; (case k1_kw => k_asm); (case k2_kw => k_asm); (case k3_kw => k_asm); (case k4_kw => k_asm); (case k5_kw => k_asm); (case k6_kw => exact rfl); (case k7_kw => exact rfl); (case k8_kw => omega); (case k9_kw => omega)); intro _ _ _ _ _ _ hP'; obtain ⟨_, e'⟩ := hP'; subst e'; (try dsimp only); (try k_fold)))
  trivial
theorem at_mid {k : Int} {n m : Nat} (hk : 1 ≤ k ∧ k < 1 + ((m - 1 : Nat) : Int)) (h : n = m) : At (k - 1) n ∧ At k n := by
  subst h
  refine ⟨⟨?_, ?_⟩, ⟨?_, ?_⟩⟩ <;> omega
theorem at_mid63 {k : Int} {m : Nat} (hk : 1 ≤ k ∧ k < 1 + ((m - 1 : Nat) : Int)) (h : m ≤ 64) : k - 1 < 2 ^ 63 ∧ k < 2 ^ 63 := by omega
set_option maxRecDepth 100000 in
set_option maxHeartbeats 8000000 in
theorem kept_spec (w : World) (lm ll : Addr) (c e : UInt8) (u v : Tok) (vs ws : List Value) (ms lim : List Int) (side : Int) (hv : IntsAre vs ms) (hw : IntsAre ws lim) (hsz : ms.length ≤ 16) (hnd : (ms.map look).Nodup) (hm0 : ∀ n ∈ ms, 0 ≤ n) (hlk : LimOk lim) : FnT w 143 142 140 9 [.ref lm, .ref ll, .bytes #[c, e] u, .int side v] (fun h => h.IsList lm vs.toArray ∧ h.IsList ll ws.toArray) (fun _ v h' => (∃ D ks rs, v = .ref D ∧ h'.IsList D ks.toArray ∧ IntsAre ks (keptL (fitsL c e lim side) rs) ∧ InOrder ms rs) ∧ GrownAt 140 h') := by
  unfold FnT
  k_fill
  intro p loose mean mg mb base g outer dp un gd s Q E hg1 hg2 hgP hgs hP B X T hC hd hu hpre hret
  refine wpAny_call ?_
  k_dflt (refine' enterT (binds := [(Str.ofString "modes", .ref lm), (Str.ofString "limit", .ref ll), (Str.ofString "pair", .bytes #[c, e] u), (Str.ofString "side", .int side v)]) ?g1 ?g2 ?g3 ?g4 ?k1 ?k3 ?k5 ?k6 ?k7 ?k8 ?k9 ?kB ?kD ?_ ?c2 ?c3 ?c4; (case g1 => exact hg1); (case g2 => exact hgP); (case g3 => exact hgs); (case g4 => exact hP); (case k1 => exact B); (case k3 => exact X); (case k5 => exact T); (case k6 => k_is); (case k7 => k_is); (case k8 => ktr_room); (case k9 => exact BindsTo.of_eq rfl); (case kB => exact rfl); (case kD => decide +kernel); (case c2 => exact rfl); (case c3 => exact rfl); (case c4 => exact rfl); k_whole; intro L' h' tk' cells' F' N' l0 Y'; (try dsimp only); (try k_fold))
  obtain ⟨o1, o2, o3, o4, o5, o6, o7, o8, hE', d1, d2, d3, d4, d5, d6, d7, d8⟩ := kc_eight Y'
  subst hE'
  clear Y'
  simp only [List.cons_append, List.nil_append] at N'
  replace d1 : o1.data = .cell none := d1
  replace d2 : o2.data = .cell none := d2
  replace d3 : o3.data = .cell none := d3
  replace d4 : o4.data = .cell none := d4
  replace d5 : o5.data = .cell (some (.int side v)) := d5
  replace d6 : o6.data = .cell (some (.bytes #[c, e] u)) := d6
  replace d7 : o7.data = .cell (some (.ref ll)) := d7
  replace d8 : o8.data = .cell (some (.ref lm)) := d8
  replace F' : Fr g L' h' (fun _ => none) := F'
  have hlen := hv.length
  have m64 : ms.length ≤ 64 := Nat.le_trans hsz (by decide)
  have v64 : vs.length ≤ 64 := hlen ▸ m64
  replace l0 := ltN l0
  obtain ⟨hp1, hp2⟩ := hpre
  k_steps
  unfold Hold
  refine src_map (fun n y => ∃ t, y = .str (look n) t) rfl (by k_asm) (by k_asm) (.inl hp1) hv (by first | with_reducible assumption | omega) ?t1 ?f1
  case t1 =>
    intro n t I oI C oC D m₂ ys h tk E' hn hC hx F' N' o3 ne
    k_steps
    all_goals exact ⟨_, _, rfl, by assumption, _, rfl⟩
  case f1 =>
    intro ys hh hl hR
    have hS := strs_map look hl hR
    clear hR
    k_steps
    unfold Hold
    dsimp only
    refine sorted_range (n := ms.length) (fun k => look (ms.getD k.toNat 0)) rfl (by k_asm) (by k_asm) (range_of (by assumption) (by k_mem)) (range_small (by omega)) (range_size _) (by omega) ?t2 ?f2
    case t2 =>
      intro k t h tk hk0 hk1 F N
      have hX := X.keeps F.keep
      have hT := T.keeps F.keep
      have hCl := cell_of N (c := L' + 1 + 1 + 1 + 1 + 1 + 1 + 1 + 1) (by k_mem) (by assumption)
      have hAt : At k ms.length := ⟨hk0, by rw [Int.zero_add] at hk1; exact hk1⟩
      refine wpAny_call (enterL (binds := [(Str.ofString "k", .int k t)]) hT (N.get (by k_mem)) (rec_of N (by k_mem) (by assumption) (by assumption)) ?room rfl (locs rfl) (fun L2 h2 F2 N2 => ?body) rfl rfl rfl (by decide))
      case room => ktr_room
      case body =>
        have hL := (list_of N (by k_mem : (_, LCg.lst ys) ∈ _)).at fun o e => F2.keep _ o e
        k_steps
        all_goals exact ⟨_, _, rfl, Fr.keep (by assumption), _, rfl⟩
    case f2 =>
      intro D zs os cc h' tk' F N lD hO hp ho
      replace lD := Apart.mk (off1_of fun p hp => Nat.ne_of_lt (lD p hp))
      have hol := (perm_range hp).1
      have o64 : os.length ≤ 64 := hol ▸ m64
      have hall := (perm_range hp).2
      have hzl : zs.length = ms.length := hO.length.trans hol
      k_steps
      unfold Hold
      refine src_none (n := ms.length - 1) rfl (by k_asm) (by k_asm) (range_of (by assumption) (by k_mem)) (range_small1 (by omega)) (range_size1 _) (by first | with_reducible assumption | omega) ?t3 ?f3
      case t3 =>
        intro k t I oI C oC D₂ m₂ ys₂ h tk E' hk hC hx F N o3 ne
        have q1 : At (k - 1) os.length := (at_mid hk hol).1
        have q2 : At k os.length := (at_mid hk hol).2
        have q1h : k - 1 < (os.length : Int) := q1.hi
        have q2h : k < (os.length : Int) := q2.hi
        have q1s : k - 1 < 2 ^ 63 := (at_mid63 hk m64).1
        have q2s : k < 2 ^ 63 := (at_mid63 hk m64).2
        have q3 := hall _ (getD_mem q1)
        have q4 := hall _ (getD_mem q2)
        have q5 := strict_at hp ho hnd hk.1 q2.hi
        have hL1 := list_of N (vs := zs) (n := cc) (by k_mem)
        have hL2 := list_of N (vs := ys) (by k_mem)
        k_steps
        all_goals exact ⟨_, _, rfl, by assumption, by rw [q5]; rfl⟩
      case f3 =>
        intro hh'
        k_steps
        unfold Hold
        refine src_map (vs := zs) (ns := os) (fun n y => ∃ t, y = .int (imode (ms.getD n.toNat 0)) t) rfl (by k_asm) (by k_asm) (.inr ⟨_, (by k_mem : (D, _) ∈ _), rfl, _, rfl⟩) hO (by first | with_reducible assumption | omega) ?t4 ?f4
        case t4 =>
          intro k t I oI C oC D₂ m₂ ys₂ h tk E' hk hC hx F N o3 ne
          have q1 := hall k hk
          have hL := hp1.at fun o e => F.keep _ o e
          k_steps
          all_goals exact ⟨_, _, rfl, by assumption, _, rfl⟩
        case f4 =>
          intro ys4 hh4 hl4 hR4
          have hRt := ints_map (fun k => imode (ms.getD k.toNat 0)) hl4 hR4
          clear hR4
          obtain ⟨rs, hrs⟩ : ∃ rs, rs = os.map (fun k => imode (ms.getD k.toNat 0)) := ⟨_, rfl⟩
          rw [← hrs] at hRt
          have hrl : rs.length = ms.length := by rw [hrs, List.length_map, hol]
          have hrb : ∀ r ∈ rs, 0 ≤ r ∧ r < 4096 := by
            intro r hr
            rw [hrs] at hr
            obtain ⟨k, hk, rfl⟩ := List.mem_map.mp hr
            exact imode_in (hm0 _ (getD_mem (hall k hk)))
          unfold LCg.FinA
          intro D4 h4 tk4 F4 N4 off4
          replace off4 := Apart.mk off4
          dsimp only
          k_steps
          unfold Hold
          refine src_filter (vs := ys4) (ns := rs) (fitsL c e lim side) rfl (by k_asm) (by k_asm) (.inr ⟨_, (by k_mem : (_, LCg.lst ys4) ∈ _), rfl, _, rfl⟩) hRt (by first | with_reducible assumption | omega) ?t5 ?e5 ?f5
          case t5 =>
            intro n t I oI C oC D₂ m₂ ys₂ h tk E' hn hC hx F N o3 ne
            have q1 := hrb n hn
            have hL := hp2.at fun o e => F.keep _ o e
            k_steps
            all_goals exact ⟨_, _, rfl, by assumption, rfl⟩
          case e5 =>
            intro n t I oI C oC D₂ m₂ ys₂ h tk E' hn hC hx F N o3 ne
            k_steps
            all_goals exact ⟨_, _, rfl, fun _ _ e => e, _, rfl⟩
          case f5 =>
            intro ys5 hh5 hfi
            unfold LCg.FinE
            intro D5 h5 tk5 F5 N5 off5
            replace off5 := Apart.mk off5
            dsimp only
            k_steps
            rename_i h6 oF dF Dk h7 lk h8 F8 N8
            unfold Hold
            have hne : L' + 1 + 1 + 1 + 1 + 1 + 1 ≠ Dk := by k_ne
            obtain ⟨PS, hPS⟩ : GrownAt 140 h8 := GrownAt.of N8 (by k_mem)
            have hoc : ∀ p ∈ [(L' + 1 + 1 + 1 + 1 + 1 + 1 + 1, oF), (D5, LCg.lst ys5), (D4, LCg.lst ys4), (140, tabObj PS)], p.1 ≠ L' + 1 + 1 + 1 + 1 + 1 + 1 := by k_all
            have hoD : ∀ p ∈ [(L' + 1 + 1 + 1 + 1 + 1 + 1 + 1, oF), (D5, LCg.lst ys5), (D4, LCg.lst ys4), (140, tabObj PS)], p.1 ≠ Dk := by k_all
            have N9a : News g L' h8 ((L' + 1 + 1 + 1 + 1 + 1 + 1, o3) :: (Dk, W.listOf #[] 0) :: [(L' + 1 + 1 + 1 + 1 + 1 + 1 + 1, oF), (D5, LCg.lst ys5), (D4, LCg.lst ys4)]) := News.pick N8 (List.forall_mem_cons.mpr ⟨by k_mem, List.forall_mem_cons.mpr ⟨by k_mem, List.forall_mem_cons.mpr ⟨by k_mem, List.forall_mem_cons.mpr ⟨by k_mem, List.forall_mem_cons.mpr ⟨by k_mem, List.forall_mem_nil _⟩⟩⟩⟩⟩)
            have N9 : News g L' h8 ((L' + 1 + 1 + 1 + 1 + 1 + 1, o3) :: (Dk, W.listOf #[] 0) :: [(L' + 1 + 1 + 1 + 1 + 1 + 1 + 1, oF), (D5, LCg.lst ys5), (D4, LCg.lst ys4), (140, tabObj PS)]) := News.pick (List.forall_mem_cons.mpr ⟨⟨hPS, neN (by omega), hgP⟩, N9a⟩ : News g L' h8 ((140, tabObj PS) :: (L' + 1 + 1 + 1 + 1 + 1 + 1, o3) :: (Dk, W.listOf #[] 0) :: [(L' + 1 + 1 + 1 + 1 + 1 + 1 + 1, oF), (D5, LCg.lst ys5), (D4, LCg.lst ys4)])) (List.forall_mem_cons.mpr ⟨by k_mem, List.forall_mem_cons.mpr ⟨by k_mem, List.forall_mem_cons.mpr ⟨by k_mem, List.forall_mem_cons.mpr ⟨by k_mem, List.forall_mem_cons.mpr ⟨by k_mem, List.forall_mem_cons.mpr ⟨by k_mem, List.forall_mem_nil _⟩⟩⟩⟩⟩⟩)
            refine for_cell (keptStep (rs.filter (fitsL c e lim side))) rfl F8 N9 d3 hne hoc hoD (.inr ⟨_, (by k_mem : (D4, _) ∈ _), rfl, _, rfl⟩) hRt rfl rfl rfl ?hev ?turn ?done (keptStep_len _) (fun _ => rfl) (by passes_own)
            case hev =>
              intro Q' hQ'
              exact wpAny_Name (wpAny_loadName_local rfl rfl F8.ns rfl hQ') (by decide)
            case turn =>
              intro n u2 h tk own' oc ks kd acc hn hal hocd hks hsub hoffc hoffD F N
              (try clear N8); (try clear N9); (try clear N9a); (try clear hPS); (try clear F8); (try clear hoc); (try clear hoD); (try clear lk); (try clear off5); (try clear off4)
              have N2 : News g L' h ((L' + 1 + 1 + 1 + 1 + 1 + 1, oc) :: (Dk, W.listOf ks.toArray kd) :: (L' + 1 + 1 + 1 + 1 + 1 + 1 + 1, oF) :: (D5, LCg.lst ys5) :: own') := News.pick N (List.forall_mem_cons.mpr ⟨.head _, List.forall_mem_cons.mpr ⟨.tail _ (.head _), List.forall_mem_cons.mpr ⟨.tail _ (.tail _ (hsub _ (.head _))), List.forall_mem_cons.mpr ⟨.tail _ (.tail _ (hsub _ (.tail _ (.head _)))), fun p hp => .tail _ (.tail _ hp)⟩⟩⟩⟩)
              clear N
              k_steps
              unfold Hold
              refine src_filter (vs := ks) (ns := acc) (fun o => !((rs.filter (fitsL c e lim side)).any (· == Builtin.bitXor n o))) rfl F N2 (.inr ⟨_, (.tail _ (.head _)), rfl, _, rfl⟩) hks (by first | with_reducible assumption | omega) ?t6 ?e6 ?f6
              case t6 =>
                intro x t I oI C oC D₂ m₂ ys₂ h tk E' ho hC hx F N o3 ne
                have hL := list_of N (vs := ys5) (by k_mem)
                k_steps
                all_goals exact ⟨_, _, rfl, fun _ _ e => e, rfl⟩
              case e6 =>
                intro x t I oI C oC D₂ m₂ ys₂ h tk E' ho hC hx F N o3 ne
                k_steps
                all_goals exact ⟨_, _, rfl, fun _ _ e => e, _, rfl⟩
              case f6 =>
                intro ys6 hh6 h6'
                k_steps
                · unfold Hold
                  (try dsimp only)
                  refine app_c ((L' + 1 + 1 + 1 + 1 + 1 + 1, oc) :: own') (by k_asm) (by k_asm) (by k_mem) (List.forall_mem_cons.mpr ⟨by k_mem, fun p hp => .tail _ (.tail _ (.tail _ (.tail _ (.tail _ (.tail _ hp)))))⟩) (List.forall_mem_cons.mpr ⟨hne, hoffD⟩) (by have := hks.length; omega) (fun h9 F9 N9 => ?_)
                  k_steps
                  refine ⟨_, _, ks ++ [.int n u2], kd + 1, rfl, F9, rfl, News.swap N9, ?_⟩
                  rw [keptStep_yes (by with_reducible assumption)]
                  exact ints_snoc hks _ _
                · refine ⟨_, _, ks, kd, rfl, by with_reducible assumption, rfl, News.pick (by with_reducible assumption) (List.forall_mem_cons.mpr ⟨by k_mem, List.forall_mem_cons.mpr ⟨by k_mem, fun p hp => .tail _ (.tail _ (.tail _ (.tail _ (.tail _ (.tail _ hp)))))⟩⟩), ?_⟩
                  rw [keptStep_no (by with_reducible assumption)]
                  exact hks
            case done =>
              intro h' tk' oc ks kd F N hks
              k_steps
              exact hret _ _ _ F.keep ⟨⟨Dk, ks, rs, rfl, list_of N (by k_mem), hks, os, hrs, hp, ho⟩, GrownAt.of N (by k_mem)⟩
end Mine
end
section
namespace Mine
noncomputable def D4 (f a : Nat) : Nat := f / 2 * 4 + (if f % 2 = 1 then 3 - a else a)
theorem D4_lin : ∀ f g : Fin 8, ∀ a b : Fin 2, D4 (f.1 ^^^ g.1) (a.1 ^^^ b.1) = D4 f.1 a.1 ^^^ D4 g.1 b.1 := by decide
theorem D4_inj : ∀ f g : Fin 8, ∀ a b : Fin 2, D4 f.1 a.1 = D4 g.1 b.1 → f = g ∧ a = b := by decide
theorem D4_lt : ∀ f : Fin 8, ∀ a : Fin 2, D4 f.1 a.1 < 16 := by decide
noncomputable def place (m p q : Nat) : Nat := D4 (m / 2 ^ p % 2 ^ 3) (m / 2 ^ q % 2 ^ 1)
noncomputable def numN (m : Nat) : Nat := place m 6 11 * 256 + place m 3 10 * 16 + place m 0 9
theorem place_lin (x y p q : Nat) : place (x ^^^ y) p q = place x p q ^^^ place y p q := by
  unfold place
  rw [Nat.xor_div_two_pow, Nat.xor_div_two_pow, Nat.xor_mod_two_pow, Nat.xor_mod_two_pow]
  exact D4_lin ⟨_, Nat.mod_lt _ (by decide)⟩ ⟨_, Nat.mod_lt _ (by decide)⟩ ⟨_, Nat.mod_lt _ (by decide)⟩ ⟨_, Nat.mod_lt _ (by decide)⟩
theorem place_lt (x p q : Nat) : place x p q < 16 := D4_lt ⟨_, Nat.mod_lt _ (by decide)⟩ ⟨_, Nat.mod_lt _ (by decide)⟩
theorem three {a b c : Nat} (hb : b < 16) (hc : c < 16) : (a * 256 + b * 16 + c) / 2 ^ 8 = a ∧ (a * 256 + b * 16 + c) / 2 ^ 4 % 2 ^ 4 = b ∧ (a * 256 + b * 16 + c) % 2 ^ 4 = c := by
  have e : a * 256 + b * 16 + c = (a * 16 + b) * 16 + c := by omega
  have e1 : ((a * 16 + b) * 16 + c) / 16 = a * 16 + b := by rw [Nat.mul_comm, Nat.mul_add_div (by decide), Nat.div_eq_of_lt hc]; rfl
  rw [e]
  refine ⟨?_, ?_, ?_⟩
  · show ((a * 16 + b) * 16 + c) / (16 * 16) = a
    rw [← Nat.div_div_eq_div_mul, e1, Nat.mul_comm, Nat.mul_add_div (by decide), Nat.div_eq_of_lt hb]; rfl
  · show ((a * 16 + b) * 16 + c) / 16 % 16 = b
    rw [e1, Nat.mul_comm, Nat.mul_add_mod, Nat.mod_eq_of_lt hb]
  · show ((a * 16 + b) * 16 + c) % 16 = c
    rw [Nat.mul_comm, Nat.mul_add_mod, Nat.mod_eq_of_lt hc]
theorem three_eq {z z' : Nat} (h1 : z / 2 ^ 8 = z' / 2 ^ 8) (h2 : z / 2 ^ 4 % 2 ^ 4 = z' / 2 ^ 4 % 2 ^ 4) (h3 : z % 2 ^ 4 = z' % 2 ^ 4) : z = z' := by omega
theorem numN_lin (x y : Nat) : numN (x ^^^ y) = numN x ^^^ numN y := by
  unfold numN
  obtain ⟨a1, a2, a3⟩ := three (a := place x 6 11) (place_lt x 3 10) (place_lt x 0 9)
  obtain ⟨b1, b2, b3⟩ := three (a := place y 6 11) (place_lt y 3 10) (place_lt y 0 9)
  obtain ⟨c1, c2, c3⟩ := three (a := place (x ^^^ y) 6 11) (place_lt (x ^^^ y) 3 10) (place_lt (x ^^^ y) 0 9)
  refine three_eq ?_ ?_ ?_
  · rw [Nat.xor_div_two_pow, a1, b1, c1, place_lin]
  · rw [Nat.xor_div_two_pow, Nat.xor_mod_two_pow, a2, b2, c2, place_lin]
  · rw [Nat.xor_mod_two_pow, a3, b3, c3, place_lin]
theorem numN_lt (x : Nat) : numN x < 2 ^ 12 := by
  unfold numN
  have := place_lt x 6 11
  have := place_lt x 3 10
  have := place_lt x 0 9
  omega
theorem place_inj {x y p q : Nat} (h : place x p q = place y p q) : x / 2 ^ p % 2 ^ 3 = y / 2 ^ p % 2 ^ 3 ∧ x / 2 ^ q % 2 ^ 1 = y / 2 ^ q % 2 ^ 1 := by
  have := D4_inj ⟨x / 2 ^ p % 2 ^ 3, Nat.mod_lt _ (by decide)⟩ ⟨y / 2 ^ p % 2 ^ 3, Nat.mod_lt _ (by decide)⟩ ⟨x / 2 ^ q % 2 ^ 1, Nat.mod_lt _ (by decide)⟩ ⟨y / 2 ^ q % 2 ^ 1, Nat.mod_lt _ (by decide)⟩ h
  exact ⟨congrArg Fin.val this.1, congrArg Fin.val this.2⟩
theorem peel {x y k j : Nat} (h : x / 2 ^ (k + j) = y / 2 ^ (k + j)) (hd : x / 2 ^ k % 2 ^ j = y / 2 ^ k % 2 ^ j) : x / 2 ^ k = y / 2 ^ k := by
  rw [Nat.pow_add, ← Nat.div_div_eq_div_mul, ← Nat.div_div_eq_div_mul] at h
  rw [← Nat.div_add_mod (x / 2 ^ k) (2 ^ j), ← Nat.div_add_mod (y / 2 ^ k) (2 ^ j), h, hd]
theorem numN_inj {x y : Nat} (hx : x < 4096) (hy : y < 4096) (h : numN x = numN y) : x = y := by
  unfold numN at h
  obtain ⟨a1, a2, a3⟩ := three (a := place x 6 11) (place_lt x 3 10) (place_lt x 0 9)
  obtain ⟨b1, b2, b3⟩ := three (a := place y 6 11) (place_lt y 3 10) (place_lt y 0 9)
  rw [h] at a1 a2 a3
  have h1 := place_inj (a1.symm.trans b1)
  have h2 := place_inj (a2.symm.trans b2)
  have h3 := place_inj (a3.symm.trans b3)
  have p : x / 2 ^ 0 = y / 2 ^ 0 := peel (j := 3) (peel (j := 3) (peel (j := 3) (peel (j := 1) (peel (j := 1) (peel (j := 1) ((Nat.div_eq_of_lt hx).trans (Nat.div_eq_of_lt hy).symm) h1.2) h2.2) h3.2) h1.1) h2.1) h3.1
  rw [Nat.pow_zero, Nat.div_one, Nat.div_one] at p
  exact p
theorem d4 (f a : Nat) (h : a ≤ 3) : ((f : Nat) : Int) / 2 * 4 + (if ((f : Nat) : Int) % 2 = 1 then 3 - ((a : Nat) : Int) else ((a : Nat) : Int)) = ((D4 f a : Nat) : Int) := by
  unfold D4
  split <;> split <;> omega
theorem numL_nat {m : Nat} (_h : m < 4096) : numL (m : Int) = ((numN m : Nat) : Int) := by
  have e1 : (m : Int) / 64 % 8 = ((m / 2 ^ 6 % 2 ^ 3 : Nat) : Int) := rfl
  have e2 : (m : Int) / 8 % 8 = ((m / 2 ^ 3 % 2 ^ 3 : Nat) : Int) := rfl
  have e3 : (m : Int) / 1 % 8 = ((m / 2 ^ 0 % 2 ^ 3 : Nat) : Int) := rfl
  have dd : ∀ p q r : Nat, p * q = r → (m : Int) / (p : Int) / (q : Int) % 2 = ((m / r % 2 ^ 1 : Nat) : Int) := fun p q r e => by
    subst e
    rw [← Nat.div_div_eq_div_mul]
    rfl
  have g1 : (m : Int) / 512 / 4 % 2 = ((m / 2 ^ 11 % 2 ^ 1 : Nat) : Int) := dd 512 4 (2 ^ 11) rfl
  have g2 : (m : Int) / 512 / 2 % 2 = ((m / 2 ^ 10 % 2 ^ 1 : Nat) : Int) := dd 512 2 (2 ^ 10) rfl
  have g3 : (m : Int) / 512 / 1 % 2 = ((m / 2 ^ 9 % 2 ^ 1 : Nat) : Int) := dd 512 1 (2 ^ 9) rfl
  unfold numL numN place
  rw [show (8 : Int) ^ Int.toNat 2 = 64 from rfl, show (8 : Int) ^ Int.toNat 1 = 8 from rfl, show (8 : Int) ^ Int.toNat 0 = 1 from rfl, show (2 : Int) ^ Int.toNat 2 = 4 from rfl, show (2 : Int) ^ Int.toNat 1 = 2 from rfl, show (2 : Int) ^ Int.toNat 0 = 1 from rfl, e1, e2, e3, g1, g2, g3]
  have k : ∀ r : Nat, m / r % 2 ^ 1 ≤ 3 := fun r => Nat.le_trans (Nat.le_of_lt (Nat.mod_lt _ (by decide))) (by decide)
  rw [Int.add_assoc (_ * 16) (_ * 4), Int.add_assoc (_ * 16) (_ * 4), Int.add_assoc (_ * 16) (_ * 4), d4 _ _ (k _), d4 _ _ (k _), d4 _ _ (k _)]
  generalize D4 _ _ = p
  generalize D4 _ _ = q
  generalize D4 _ _ = r
  omega
end Mine
end
section
open PySem PySem.W PyProof.Rows PySem.Calls
namespace Mine
theorem join_cps : ∀ l : List Str, (Str.join (Str.ofString "") l).cps.toList = (l.map (·.cps.toList)).flatten
  | [] => rfl
  | [x] => by simp [Str.join]
  | x :: y :: r => by
    rw [join_cons_cons, List.map_cons, List.flatten_cons, ← join_cps (y :: r)]
    show ((x.cps ++ (Str.ofString "").cps) ++ (Str.join (Str.ofString "") (y :: r)).cps).toList = _
    rw [Array.toList_append, Array.toList_append]
    rw [show (Str.ofString "").cps.toList = [] from rfl, List.append_nil]
theorem look_cps (n : Int) : (look n).cps.toList = ((looksL n).map (·.cps.toList)).flatten := by
  unfold look
  show (Builtin.Str.glued (Str.ofString "") (looksL n)).cps.toList = _
  rw [StrLaws.glued_eq_join, join_cps]
theorem and_one (n k : Nat) : n &&& 2 ^ k = 2 ^ k ↔ n.testBit k = true := by
  constructor
  · intro h
    have := congrArg (Nat.testBit · k) h
    simpa [Nat.testBit_and, Nat.testBit_two_pow_self] using this
  · intro h
    refine Nat.eq_of_testBit_eq fun i => ?_
    rw [Nat.testBit_and]
    by_cases e : k = i
    · subst e; rw [h, Bool.true_and]
    · rw [Nat.testBit_two_pow_of_ne e, Bool.and_false]
theorem and_two (n k j : Nat) : n &&& (2 ^ k ||| 2 ^ j) = 2 ^ k ||| 2 ^ j ↔ n.testBit k = true ∧ n.testBit j = true := by
  constructor
  · intro h
    have h1 := congrArg (Nat.testBit · k) h
    have h2 := congrArg (Nat.testBit · j) h
    simp only [Nat.testBit_and, Nat.testBit_or, Nat.testBit_two_pow_self, Bool.true_or, Bool.or_true, Bool.and_true] at h1 h2
    exact ⟨h1, h2⟩
  · rintro ⟨h1, h2⟩
    refine Nat.eq_of_testBit_eq fun i => ?_
    rw [Nat.testBit_and, Nat.testBit_or]
    by_cases e : k = i
    · subst e; rw [h1, Bool.true_and]
    · by_cases e2 : j = i
      · subst e2; rw [h2, Bool.true_and]
      · rw [Nat.testBit_two_pow_of_ne e, Nat.testBit_two_pow_of_ne e2]; simp
/-- the three signs of a place, by its number -/
noncomputable def signs3 (t : Nat) (d : Nat) : List Nat := [if d / 8 = 1 then 114 else 45, if d / 4 % 2 = 1 then 119 else 45, if d % 4 = 0 then 45 else if d % 4 = 1 then t - 32 else if d % 4 = 2 then t else 120]
theorem signs_mono : ∀ d e : Fin 16, (signs3 115 d.1 < signs3 115 e.1 ↔ d.1 < e.1) ∧ (signs3 116 d.1 < signs3 116 e.1 ↔ d.1 < e.1) := by decide +kernel
theorem hit_one (n k i : Nat) (hi : i ≠ 0) : hitAt (n : Int) i ((2 ^ k : Nat) : Int) = n.testBit k := by
  unfold hitAt
  rw [if_neg (by omega), bitAnd_nat, Bool.eq_iff_iff, decide_eq_true_eq, ← and_one]
  exact Int.ofNat_inj
theorem hit_two (n k j i : Nat) (hi : i ≠ 0) : hitAt (n : Int) i ((2 ^ k ||| 2 ^ j : Nat) : Int) = (n.testBit k && n.testBit j) := by
  unfold hitAt
  rw [if_neg (by omega), bitAnd_nat, Bool.eq_iff_iff, decide_eq_true_eq, Bool.and_eq_true, ← and_two]
  exact Int.ofNat_inj
noncomputable def third (t : Nat) (x q : Bool) : Nat := if (x && q) = true then t else if q = true then t - 32 else if x = true then 120 else 45
theorem signs_dec : ∀ f : Fin 8, ∀ a : Fin 2, ∀ t : Fin 2, signs3 (115 + t.1) (D4 f.1 a.1) = [if decide (f.1 / 4 = 1) = true then 114 else 45, if decide (f.1 / 2 % 2 = 1) = true then 119 else 45, third (115 + t.1) (decide (f.1 % 2 = 1)) (decide (a.1 = 1))] := by decide
theorem signs_bits (m p q : Nat) (t : Fin 2) : signs3 (115 + t.1) (place m p q) = [if m.testBit (p + 2) = true then 114 else 45, if m.testBit (p + 1) = true then 119 else 45, third (115 + t.1) (m.testBit p) (m.testBit q)] := by
  have h := signs_dec ⟨m / 2 ^ p % 2 ^ 3, Nat.mod_lt _ (by decide)⟩ ⟨m / 2 ^ q % 2 ^ 1, Nat.mod_lt _ (by decide)⟩ t
  have e0 : m.testBit p = decide (m / 2 ^ p % 2 ^ 3 % 2 = 1) := by rw [Nat.testBit_eq_decide_div_mod_eq, Nat.mod_mod_of_dvd _ (by decide)]
  have e1 : m.testBit (p + 1) = decide (m / 2 ^ p % 2 ^ 3 / 2 % 2 = 1) := by
    rw [Nat.testBit_eq_decide_div_mod_eq, Nat.pow_add, ← Nat.div_div_eq_div_mul, show (2 : Nat) ^ 3 = 2 * 4 from rfl, Nat.mod_mul_right_div_self, Nat.mod_mod_of_dvd _ (by decide)]
  have e2 : m.testBit (p + 2) = decide (m / 2 ^ p % 2 ^ 3 / 4 = 1) := by
    rw [Nat.testBit_eq_decide_div_mod_eq, Nat.pow_add, ← Nat.div_div_eq_div_mul, show (2 : Nat) ^ 3 = 4 * 2 from rfl, Nat.mod_mul_right_div_self]
  have e3 : m.testBit q = decide (m / 2 ^ q % 2 ^ 1 = 1) := by rw [Nat.testBit_eq_decide_div_mod_eq]
  rw [e0, e1, e2, e3]
  exact h
theorem piece1 (N k i : Nat) (hi : i ≠ 0) (a b : Addr) (c : Str) : (lookAt (N : Int) i (a, [(b, ((2 ^ k : Nat) : Int), c)])).cps.toList = if N.testBit k = true then c.cps.toList else [45] := by
  unfold lookAt pickP pickP
  rw [hit_one N k i hi]
  have hd : dflAt i = Str.ofString "-" := by unfold dflAt; rw [if_neg (by omega)]
  rw [hd]
  split <;> rfl
theorem piece3 (N k j i : Nat) (hi : i ≠ 0) (a b1 b2 b3 : Addr) (c1 c2 c3 : Str) : (lookAt (N : Int) i (a, [(b1, ((2 ^ k ||| 2 ^ j : Nat) : Int), c1), (b2, ((2 ^ k : Nat) : Int), c2), (b3, ((2 ^ j : Nat) : Int), c3)])).cps.toList =
    if (N.testBit k && N.testBit j) = true then c1.cps.toList else if N.testBit k = true then c2.cps.toList else if N.testBit j = true then c3.cps.toList else [45] := by
  unfold lookAt pickP pickP pickP pickP
  simp only []
  rw [hit_one N k i hi, hit_one N j i hi, hit_two N k j i hi]
  have hd : dflAt i = Str.ofString "-" := by unfold dflAt; rw [if_neg (by omega)]
  rw [hd]
  split
  · rfl
  · split
    · rfl
    · split <;> rfl
/-- the sign of the kind -/
noncomputable def kindC (n : Int) : List Nat := (lookAt n 0 (fmTab.getD 0 (0, []))).cps.toList
theorem look_eq (N : Nat) : (look (N : Int)).cps.toList = kindC N ++ (signs3 115 (place N 6 11) ++ (signs3 115 (place N 3 10) ++ signs3 116 (place N 0 9))) := by
  rw [look_cps, show signs3 115 (place N 6 11) = _ from signs_bits N 6 11 0, show signs3 115 (place N 3 10) = _ from signs_bits N 3 10 0, show signs3 116 (place N 0 9) = _ from signs_bits N 0 9 1]
  have p1 := piece1 N 8 1 (by decide) 89 88 (Str.ofString "r")
  replace p1 := p1.trans (show _ = [if N.testBit 8 = true then 114 else 45] by cases N.testBit 8 <;> rfl)
  have p2 := piece1 N 7 2 (by decide) 91 90 (Str.ofString "w")
  replace p2 := p2.trans (show _ = [if N.testBit 7 = true then 119 else 45] by cases N.testBit 7 <;> rfl)
  have p3 := piece3 N 11 6 3 (by decide) 95 92 93 94 (Str.ofString "s") (Str.ofString "S") (Str.ofString "x")
  replace p3 := p3.trans (show _ = [third 115 (N.testBit 6) (N.testBit 11)] by unfold third; cases N.testBit 11 <;> cases N.testBit 6 <;> rfl)
  have p4 := piece1 N 5 4 (by decide) 97 96 (Str.ofString "r")
  replace p4 := p4.trans (show _ = [if N.testBit 5 = true then 114 else 45] by cases N.testBit 5 <;> rfl)
  have p5 := piece1 N 4 5 (by decide) 99 98 (Str.ofString "w")
  replace p5 := p5.trans (show _ = [if N.testBit 4 = true then 119 else 45] by cases N.testBit 4 <;> rfl)
  have p6 := piece3 N 10 3 6 (by decide) 103 100 101 102 (Str.ofString "s") (Str.ofString "S") (Str.ofString "x")
  replace p6 := p6.trans (show _ = [third 115 (N.testBit 3) (N.testBit 10)] by unfold third; cases N.testBit 10 <;> cases N.testBit 3 <;> rfl)
  have p7 := piece1 N 2 7 (by decide) 105 104 (Str.ofString "r")
  replace p7 := p7.trans (show _ = [if N.testBit 2 = true then 114 else 45] by cases N.testBit 2 <;> rfl)
  have p8 := piece1 N 1 8 (by decide) 107 106 (Str.ofString "w")
  replace p8 := p8.trans (show _ = [if N.testBit 1 = true then 119 else 45] by cases N.testBit 1 <;> rfl)
  have p9 := piece3 N 9 0 9 (by decide) 111 108 109 110 (Str.ofString "t") (Str.ofString "T") (Str.ofString "x")
  replace p9 := p9.trans (show _ = [third 116 (N.testBit 0) (N.testBit 9)] by unfold third; cases N.testBit 9 <;> cases N.testBit 0 <;> rfl)
  show (kindC N :: [_, _, _, _, _, _, _, _, _]).flatten = _
  rw [List.flatten_cons]
  congr 1
  exact (congrArg List.flatten (congr (congrArg List.cons p1) (congr (congrArg List.cons p2) (congr (congrArg List.cons p3) (congr (congrArg List.cons p4) (congr (congrArg List.cons p5) (congr (congrArg List.cons p6) (congr (congrArg List.cons p7) (congr (congrArg List.cons p8) (congr (congrArg List.cons p9) rfl))))))))))
theorem and_high {q m : Nat} (h : m < 4096) : (q * 4096 + m) &&& 61440 = (q * 4096) &&& 61440 := by
  rw [Nat.mul_comm q 4096]
  show (2 ^ 12 * q + m) &&& (2 ^ 12 * 15) = (2 ^ 12 * q) &&& (2 ^ 12 * 15)
  refine Nat.eq_of_testBit_eq fun i => ?_
  rw [Nat.testBit_and, Nat.testBit_and, Nat.testBit_two_pow_mul, Nat.testBit_two_pow_mul, Nat.testBit_two_pow_mul_add _ h]
  by_cases hi : i < 12
  · rw [decide_eq_false (Nat.not_le.mpr hi), Bool.false_and, Bool.and_false, Bool.and_false]
  · rw [if_neg hi, decide_eq_true (Nat.not_lt.mp hi), Bool.true_and, Bool.true_and]
theorem kind_eq {q m : Nat} (h : m < 4096) : kindC ((q * 4096 + m : Nat) : Int) = kindC ((q * 4096 : Nat) : Int) := by
  have e : hitAt ((q * 4096 + m : Nat) : Int) 0 = hitAt ((q * 4096 : Nat) : Int) 0 := by
    funext b
    unfold hitAt
    rw [if_pos (by rfl), if_pos (by rfl), show (61440 : Int) = ((61440 : Nat) : Int) from rfl, bitAnd_nat, bitAnd_nat, and_high h]
  unfold kindC lookAt
  rw [e]
theorem lt_same : ∀ (t x y : List Nat), (t ++ x < t ++ y) ↔ x < y
  | [], _, _ => Iff.rfl
  | c :: t, x, y => by
    rw [List.cons_append, List.cons_append, List.cons_lt_cons_iff]
    simp [lt_same t x y]
theorem lt_block : ∀ {s t : List Nat} (x y : List Nat), s.length = t.length → ((s ++ x < t ++ y) ↔ (s < t ∨ s = t ∧ x < y))
  | [], [], x, y, _ => by simp
  | [], _ :: _, _, _, h => by simp at h
  | _ :: _, [], _, _, h => by simp at h
  | a :: s, b :: t, x, y, h => by
    rw [List.cons_append, List.cons_append, List.cons_lt_cons_iff, List.cons_lt_cons_iff, lt_block x y (by simpa using h)]
    constructor
    · rintro (h1 | ⟨h1, h2 | ⟨h2, h3⟩⟩)
      · exact .inl (.inl h1)
      · exact .inl (.inr ⟨h1, h2⟩)
      · exact .inr ⟨by rw [h1, h2], h3⟩
    · rintro ((h1 | ⟨h1, h2⟩) | ⟨h1, h2⟩)
      · exact .inl h1
      · exact .inr ⟨h1, .inl h2⟩
      · cases h1; exact .inr ⟨rfl, .inr ⟨rfl, h2⟩⟩
theorem signs_eq : ∀ d e : Fin 16, (signs3 115 d.1 = signs3 115 e.1 → d.1 = e.1) ∧ (signs3 116 d.1 = signs3 116 e.1 → d.1 = e.1) := by decide +kernel
theorem body_lt {x y : Nat} : (signs3 115 (place x 6 11) ++ (signs3 115 (place x 3 10) ++ signs3 116 (place x 0 9))) < (signs3 115 (place y 6 11) ++ (signs3 115 (place y 3 10) ++ signs3 116 (place y 0 9))) ↔ numN x < numN y := by
  have m1 := (signs_mono ⟨place x 6 11, place_lt ..⟩ ⟨place y 6 11, place_lt ..⟩).1
  have m2 := (signs_mono ⟨place x 3 10, place_lt ..⟩ ⟨place y 3 10, place_lt ..⟩).1
  have m3 := (signs_mono ⟨place x 0 9, place_lt ..⟩ ⟨place y 0 9, place_lt ..⟩).2
  have q1 := (signs_eq ⟨place x 6 11, place_lt ..⟩ ⟨place y 6 11, place_lt ..⟩).1
  have q2 := (signs_eq ⟨place x 3 10, place_lt ..⟩ ⟨place y 3 10, place_lt ..⟩).1
  simp only [] at m1 m2 m3 q1 q2
  rw [lt_block (s := signs3 115 (place x 6 11)) (t := signs3 115 (place y 6 11)) _ _ rfl, lt_block (s := signs3 115 (place x 3 10)) (t := signs3 115 (place y 3 10)) _ _ rfl, m1, m2, m3]
  have b1 := place_lt x 3 10
  have b2 := place_lt y 3 10
  have b3 := place_lt x 0 9
  have b4 := place_lt y 0 9
  unfold numN
  constructor
  · rintro (h | ⟨h, h2 | ⟨h2, h3⟩⟩)
    · omega
    · have := q1 h; omega
    · have := q1 h; have := q2 h2; omega
  · intro h
    by_cases e1 : place x 6 11 = place y 6 11
    · refine .inr ⟨by rw [e1], ?_⟩
      by_cases e2 : place x 3 10 = place y 3 10
      · exact .inr ⟨by rw [e2], by omega⟩
      · exact .inl (by omega)
    · exact .inl (by omega)
theorem look_lt {q x y : Nat} (hx : x < 4096) (hy : y < 4096) : (look ((q * 4096 + x : Nat) : Int)).cps.toList < (look ((q * 4096 + y : Nat) : Int)).cps.toList ↔ numN x < numN y := by
  have pl : ∀ {m p r : Nat}, m < 4096 → p + 3 ≤ 12 → r + 1 ≤ 12 → place (q * 4096 + m) p r = place m p r := by
    intro m p r hm hp hr
    unfold place
    have e : ∀ k j : Nat, k + j ≤ 12 → (q * 4096 + m) / 2 ^ k % 2 ^ j = m / 2 ^ k % 2 ^ j := fun k j hk => by
      have e1 : q * 4096 = 2 ^ k * (2 ^ j * (q * 2 ^ (12 - k - j))) := by
        have : (4096 : Nat) = 2 ^ k * 2 ^ j * 2 ^ (12 - k - j) := by rw [← Nat.pow_add, ← Nat.pow_add, show k + j + (12 - k - j) = 12 by omega]
        rw [this]
        simp only [Nat.mul_assoc, Nat.mul_comm, Nat.mul_left_comm]
      rw [e1, Nat.mul_add_div (Nat.pow_pos (by decide)), Nat.mul_add_mod]
    rw [e _ _ hp, e _ _ hr]
  rw [look_eq, look_eq, kind_eq hx, kind_eq hy, lt_same, pl hx (by decide) (by decide), pl hx (by decide) (by decide), pl hx (by decide) (by decide), pl hy (by decide) (by decide), pl hy (by decide) (by decide), pl hy (by decide) (by decide)]
  exact body_lt
end Mine
end
section
namespace Mine
theorem top_bit {d : Nat} (h : d ≠ 0) : ∃ t, d.testBit t = true ∧ ∀ j, t < j → d.testBit j = false := by
  refine ⟨d.log2, ?_, fun j hj => ?_⟩
  · have h1 := Nat.log2_self_le h
    have h2 := @Nat.lt_log2_self d
    rw [Nat.testBit_eq_decide_div_mod_eq]
    have h3 : d / 2 ^ d.log2 = 1 := by
      have p : 0 < 2 ^ d.log2 := Nat.pow_pos (by decide)
      apply Nat.div_eq_of_lt_le
      · omega
      · rw [Nat.pow_succ] at h2; omega
    rw [h3]; rfl
  · refine Nat.testBit_lt_two_pow (Nat.lt_of_lt_of_le (@Nat.lt_log2_self d) (Nat.pow_le_pow_right (by decide) hj))
theorem lt_bits {x y t : Nat} (hx : x.testBit t = false) (hy : y.testBit t = true) (hj : ∀ j, t < j → x.testBit j = y.testBit j) : x < y := by
  have e : x / 2 ^ (t + 1) = y / 2 ^ (t + 1) := Nat.eq_of_testBit_eq fun i => by
    rw [Nat.testBit_div_two_pow, Nat.testBit_div_two_pow]
    exact hj _ (by omega)
  rw [Nat.testBit_eq_decide_div_mod_eq] at hx hy
  have hx' := of_decide_eq_false hx
  have hy' := of_decide_eq_true hy
  rw [Nat.pow_succ, ← Nat.div_div_eq_div_mul, ← Nat.div_div_eq_div_mul] at e
  have h1 : x / 2 ^ t < y / 2 ^ t := by omega
  apply Nat.lt_of_not_le
  intro h2
  have := Nat.div_le_div_right (c := 2 ^ t) h2
  omega
theorem xor_cancel (a b : Nat) : a ^^^ (a ^^^ b) = b := by rw [← Nat.xor_assoc, Nat.xor_self, Nat.zero_xor]
theorem bit_of_lt {x y t : Nat} (h : x < y) (hne : x.testBit t ≠ y.testBit t) (hj : ∀ j, t < j → x.testBit j = y.testBit j) : x.testBit t = false ∧ y.testBit t = true := by
  cases hx : x.testBit t <;> cases hy : y.testBit t
  · exact absurd (hx.trans hy.symm) hne
  · exact ⟨rfl, rfl⟩
  · exact absurd h (Nat.not_lt.mpr (Nat.le_of_lt (lt_bits hy hx fun j hj' => (hj j hj').symm)))
  · exact absurd (hx.trans hy.symm) hne
theorem xor_back {a c z : Nat} (h1 : c < z) (h2 : a ^^^ z < a ^^^ c) : a ^^^ (z ^^^ c) < a := by
  have hd : z ^^^ c ≠ 0 := by
    intro e
    have : z = c := by have := xor_cancel z c; rw [e, Nat.xor_zero] at this; exact this
    omega
  obtain ⟨t, ht, hj⟩ := top_bit hd
  rw [Nat.testBit_xor] at ht
  have hj' : ∀ j, t < j → z.testBit j = c.testBit j := fun j hjt => by
    have := hj j hjt
    rw [Nat.testBit_xor] at this
    cases hz : z.testBit j <;> cases hc : c.testBit j <;> rw [hz, hc] at this <;> first | rfl | cases this
  have hne : c.testBit t ≠ z.testBit t := fun e => by rw [e] at ht; simp at ht
  obtain ⟨b1, b2⟩ := bit_of_lt h1 hne fun j hjt => (hj' j hjt).symm
  have b3 := bit_of_lt (t := t) h2 (by rw [Nat.testBit_xor, Nat.testBit_xor, b1, b2]; cases a.testBit t <;> decide) fun j hjt => by rw [Nat.testBit_xor, Nat.testBit_xor, hj' j hjt]
  have b4 : a.testBit t = true := by
    have := b3.1
    rw [Nat.testBit_xor, b2] at this
    cases e : a.testBit t
    · rw [e] at this; cases this
    · rfl
  refine lt_bits (t := t) ?_ b4 fun j hjt => ?_
  · rw [Nat.testBit_xor, Nat.testBit_xor, b4, b2, b1]; rfl
  · rw [Nat.testBit_xor, hj j hjt]; simp
noncomputable def fitsAll (P : Nat → Bool) (acc : List Nat) (n : Nat) : Bool := acc.all fun o => P (n ^^^ o)
noncomputable def gStep (P : Nat → Bool) (acc : List Nat) (n : Nat) : List Nat := if fitsAll P acc n = true then acc ++ [n] else acc
noncomputable def firstsN (P : Nat → Bool) (S G : List Nat) (n : Nat) : List Nat := ((S.drop n).take (min (2 * n) S.length - n)).filter (fitsAll P G)
noncomputable def dStep (P : Nat → Bool) (S G : List Nat) (n : Nat) : List Nat := match firstsN P S G n with
  | [] => G
  | a :: _ => G ++ G.map (a ^^^ ·)
theorem batch_none {P : Nat → Bool} {K : List Nat} : ∀ {T : List Nat}, (∀ y ∈ T, fitsAll P K y = false) → T.foldl (gStep P) K = K
  | [], _ => rfl
  | y :: T, h => by
    rw [List.foldl_cons]
    have e : gStep P K y = K := by unfold gStep; rw [h y (.head _)]; rfl
    rw [e]
    exact batch_none fun z hz => h z (.tail _ hz)
/-- what stands after the numbers of A: the kept ones are a group, and why the others fell -/
structure Kept1 (P : Nat → Bool) (A K : List Nat) : Prop where
  zero : 0 ∈ K
  clo : ∀ x ∈ K, ∀ y ∈ K, x ^^^ y ∈ K
  fit : ∀ c ∈ K, c ≠ 0 → P c = true
  sub : ∀ c ∈ K, c ∈ A
  ord : K.Pairwise (· < ·)
  rej : ∀ z ∈ A, z ∉ K → ∃ c ∈ K, c < z ∧ P (z ^^^ c) = false
section
variable {P : Nat → Bool} {A K T : List Nat} {a : Nat}
noncomputable def inK (K : List Nat) (a y : Nat) : Bool := decide (a ^^^ y ∈ K)
theorem accept_iff (k : Kept1 P A K) (hs : T.Pairwise (· < ·)) (hT : ∀ x ∈ T, ∀ y ∈ T, x ^^^ y ∈ A) (hTA : ∀ x ∈ T, ∀ v ∈ A, x ^^^ v ∈ T) (ha : a ∈ T) (hfa : fitsAll P K a = true) (hmin : ∀ x ∈ T, fitsAll P K x = true → a ≤ x)
    {T1 T2 : List Nat} {y : Nat} (e : T = T1 ++ y :: T2) : fitsAll P (K ++ T1.filter (inK K a)) y = inK K a y := by
  have hy : y ∈ T := by rw [e]; simp
  have hlt : ∀ z ∈ T1, z < y := fun z hz => by
    rw [e] at hs
    exact (List.pairwise_append.mp hs).2.2 z hz y (.head _)
  have hfa' : ∀ o ∈ K, P (a ^^^ o) = true := List.all_eq_true.mp hfa
  rw [Bool.eq_iff_iff]
  unfold inK
  rw [decide_eq_true_eq]
  constructor
  · intro h
    have h' : ∀ o ∈ K ++ T1.filter (inK K a), P (y ^^^ o) = true := List.all_eq_true.mp h
    by_cases hn : a ^^^ y ∈ K
    · exact hn
    · exfalso
      obtain ⟨c, hc, hcz, hPc⟩ := k.rej _ (hT a ha y hy) hn
      have hac := hTA a ha c (k.sub c hc)
      rcases Nat.lt_trichotomy (a ^^^ c) y with hl | hl | hl
      · have h1 : a ^^^ c ∈ T1 := by
          rw [e] at hac hs
          rcases List.mem_append.mp hac with h1 | h1
          · exact h1
          · rcases List.mem_cons.mp h1 with h1 | h1
            · omega
            · have := (List.pairwise_cons.mp (List.pairwise_append.mp hs).2.1).1 _ h1
              omega
        have h2 := h' (a ^^^ c) (List.mem_append.mpr (.inr (List.mem_filter.mpr ⟨h1, by unfold inK; rw [xor_cancel]; exact decide_eq_true hc⟩)))
        have e2 : y ^^^ (a ^^^ c) = a ^^^ y ^^^ c := by rw [← Nat.xor_assoc, Nat.xor_comm y a]
        rw [e2, hPc] at h2
        cases h2
      · exact hn (by rw [← hl, xor_cancel]; exact hc)
      · have h3 : a ^^^ (a ^^^ y ^^^ c) < a := xor_back hcz (by rw [xor_cancel]; exact hl)
        have e3 : a ^^^ (a ^^^ y ^^^ c) = y ^^^ c := by rw [Nat.xor_assoc, xor_cancel]
        rw [e3] at h3
        have h4 := hmin (y ^^^ c) (hTA y hy c (k.sub c hc)) (List.all_eq_true.mpr fun o ho => by
          rw [Nat.xor_assoc]
          exact h' _ (List.mem_append.mpr (.inl (k.clo c hc o ho))))
        omega
  · intro hm
    refine List.all_eq_true.mpr fun z hz => ?_
    rcases List.mem_append.mp hz with hz | hz
    · have := hfa' _ (k.clo _ hm z hz)
      rwa [Nat.xor_assoc, xor_cancel] at this
    · obtain ⟨hz1, hz2⟩ := List.mem_filter.mp hz
      have hz3 : a ^^^ z ∈ K := of_decide_eq_true hz2
      have e4 : y ^^^ z = (a ^^^ y) ^^^ (a ^^^ z) := by
        rw [Nat.xor_comm a y, Nat.xor_assoc, xor_cancel]
      have hne : y ^^^ z ≠ 0 := fun e0 => by
        have h5 : y = z := by have := xor_cancel y z; rw [e0, Nat.xor_zero] at this; exact this
        have := hlt z hz1
        omega
      exact k.fit _ (by rw [e4]; exact k.clo _ hm _ hz3) hne
theorem batch_some (k : Kept1 P A K) (hs : T.Pairwise (· < ·)) (hT : ∀ x ∈ T, ∀ y ∈ T, x ^^^ y ∈ A) (hTA : ∀ x ∈ T, ∀ v ∈ A, x ^^^ v ∈ T) (ha : a ∈ T) (hfa : fitsAll P K a = true) (hmin : ∀ x ∈ T, fitsAll P K x = true → a ≤ x) :
    ∀ T2 T1 : List Nat, T = T1 ++ T2 → T2.foldl (gStep P) (K ++ T1.filter (inK K a)) = K ++ T.filter (inK K a)
  | [], T1, e => by rw [e, List.append_nil]; rfl
  | y :: T2, T1, e => by
    have h1 := accept_iff k hs hT hTA ha hfa hmin e
    rw [List.foldl_cons]
    have e2 : gStep P (K ++ T1.filter (inK K a)) y = K ++ (T1 ++ [y]).filter (inK K a) := by
      unfold gStep
      rw [h1, List.filter_append]
      by_cases hy : inK K a y = true
      · rw [if_pos hy, List.filter_cons_of_pos hy, List.append_assoc]; rfl
      · rw [if_neg hy, List.filter_cons_of_neg hy, List.filter_nil, List.append_nil]
    rw [e2]
    exact batch_some k hs hT hTA ha hfa hmin T2 (T1 ++ [y]) (by rw [e, List.append_assoc]; rfl)
theorem kept_more (k : Kept1 P A K) (hs : T.Pairwise (· < ·)) (hAT : ∀ v ∈ A, ∀ x ∈ T, v < x) (hT : ∀ x ∈ T, ∀ y ∈ T, x ^^^ y ∈ A) (hTA : ∀ x ∈ T, ∀ v ∈ A, x ^^^ v ∈ T) (ha : a ∈ T) (hfa : fitsAll P K a = true) (hmin : ∀ x ∈ T, fitsAll P K x = true → a ≤ x) :
    Kept1 P (A ++ T) (K ++ T.filter (inK K a)) := by
  have hfa' : ∀ o ∈ K, P (a ^^^ o) = true := List.all_eq_true.mp hfa
  have mem : ∀ x, x ∈ T.filter (inK K a) ↔ x ∈ T ∧ a ^^^ x ∈ K := fun x => by rw [List.mem_filter]; unfold inK; rw [decide_eq_true_eq]
  have mix : ∀ x ∈ K, ∀ y ∈ T.filter (inK K a), x ^^^ y ∈ T.filter (inK K a) := fun x hx y hy => by
    obtain ⟨h1, h2⟩ := (mem y).mp hy
    refine (mem _).mpr ⟨by rw [Nat.xor_comm]; exact hTA y h1 x (k.sub x hx), ?_⟩
    rw [Nat.xor_comm x y, ← Nat.xor_assoc]
    exact k.clo _ h2 _ hx
  refine ⟨List.mem_append.mpr (.inl k.zero), fun x hx y hy => ?_, fun c hc h0 => ?_, fun c hc => ?_, ?_, fun z hz hn => ?_⟩
  · rcases List.mem_append.mp hx with hx | hx <;> rcases List.mem_append.mp hy with hy | hy
    · exact List.mem_append.mpr (.inl (k.clo x hx y hy))
    · exact List.mem_append.mpr (.inr (mix x hx y hy))
    · rw [Nat.xor_comm]; exact List.mem_append.mpr (.inr (mix y hy x hx))
    · have h1 := ((mem x).mp hx).2
      have h2 := ((mem y).mp hy).2
      have := k.clo _ h1 _ h2
      rw [Nat.xor_comm a x, Nat.xor_assoc, xor_cancel] at this
      exact List.mem_append.mpr (.inl this)
  · rcases List.mem_append.mp hc with hc | hc
    · exact k.fit c hc h0
    · have := hfa' _ ((mem c).mp hc).2
      rwa [xor_cancel] at this
  · rcases List.mem_append.mp hc with hc | hc
    · exact List.mem_append.mpr (.inl (k.sub c hc))
    · exact List.mem_append.mpr (.inr ((mem c).mp hc).1)
  · exact List.pairwise_append.mpr ⟨k.ord, hs.filter _, fun c hc x hx => hAT c (k.sub c hc) x ((mem x).mp hx).1⟩
  · rcases List.mem_append.mp hz with hz | hz
    · obtain ⟨c, hc, h1, h2⟩ := k.rej z hz fun h => hn (List.mem_append.mpr (.inl h))
      exact ⟨c, List.mem_append.mpr (.inl hc), h1, h2⟩
    · obtain ⟨T1, T2, e⟩ := List.append_of_mem hz
      have h1 := accept_iff k hs hT hTA ha hfa hmin e
      have h2 : inK K a z = false := by
        cases h : inK K a z
        · rfl
        · exact absurd (List.mem_append.mpr (.inr (List.mem_filter.mpr ⟨hz, h⟩))) hn
      rw [h2] at h1
      obtain ⟨o, ho, hPo⟩ := List.all_eq_false.mp h1
      have hPo' : P (z ^^^ o) = false := by simpa using hPo
      rcases List.mem_append.mp ho with ho | ho
      · exact ⟨o, List.mem_append.mpr (.inl ho), hAT o (k.sub o ho) z hz, hPo'⟩
      · obtain ⟨o1, o2⟩ := List.mem_filter.mp ho
        refine ⟨o, List.mem_append.mpr (.inr (List.mem_filter.mpr ⟨by rw [e]; exact List.mem_append.mpr (.inl o1), o2⟩)), ?_, hPo'⟩
        rw [e] at hs
        exact (List.pairwise_append.mp hs).2.2 o o1 z (.head _)
theorem kept_same (k : Kept1 P A K) (hAT : ∀ v ∈ A, ∀ x ∈ T, v < x) (hn : ∀ y ∈ T, fitsAll P K y = false) : Kept1 P (A ++ T) K := by
  refine ⟨k.zero, k.clo, k.fit, fun c hc => List.mem_append.mpr (.inl (k.sub c hc)), k.ord, fun z hz hzn => ?_⟩
  rcases List.mem_append.mp hz with hz | hz
  · exact k.rej z hz hzn
  · obtain ⟨o, ho, hPo⟩ := List.all_eq_false.mp (hn z hz)
    exact ⟨o, ho, hAT o (k.sub o ho) z hz, by simpa using hPo⟩
theorem fitsAll_perm {G : List Nat} (h : G.Perm K) (n : Nat) : fitsAll P G n = fitsAll P K n := by
  rw [Bool.eq_iff_iff]
  unfold fitsAll
  rw [List.all_eq_true, List.all_eq_true]
  exact ⟨fun hh o ho => hh o (h.mem_iff.mpr ho), fun hh o ho => hh o (h.mem_iff.mp ho)⟩
theorem nodup_lt : ∀ {l : List Nat}, l.Pairwise (· < ·) → l.Nodup := fun h => h.imp fun h => Nat.ne_of_lt h
/-- one turn of the doubling against one batch of the greedy choice -/
theorem batch {S G : List Nat} {n : Nat} (k : Kept1 P A K) (hg : G.Perm K) (hw : (S.drop n).take (min (2 * n) S.length - n) = T) (hs : T.Pairwise (· < ·)) (hAT : ∀ v ∈ A, ∀ x ∈ T, v < x) (hT : ∀ x ∈ T, ∀ y ∈ T, x ^^^ y ∈ A) (hTA : ∀ x ∈ T, ∀ v ∈ A, x ^^^ v ∈ T) :
    Kept1 P (A ++ T) (T.foldl (gStep P) K) ∧ (dStep P S G n).Perm (T.foldl (gStep P) K) := by
  have ef : firstsN P S G n = T.filter (fitsAll P K) := by
    unfold firstsN
    rw [hw]
    exact List.filter_congr fun x _ => fitsAll_perm hg x
  unfold dStep
  rw [ef]
  cases h : T.filter (fitsAll P K) with
  | nil =>
    have hn : ∀ y ∈ T, fitsAll P K y = false := fun y hy => by
      cases e : fitsAll P K y
      · rfl
      · have : y ∈ T.filter (fitsAll P K) := List.mem_filter.mpr ⟨hy, e⟩
        rw [h] at this; cases this
    rw [batch_none hn]
    exact ⟨kept_same k hAT hn, hg⟩
  | cons a l =>
    have h1 : a ∈ T.filter (fitsAll P K) := by rw [h]; exact .head _
    obtain ⟨ha, hfa⟩ := List.mem_filter.mp h1
    have hmin : ∀ x ∈ T, fitsAll P K x = true → a ≤ x := fun x hx hfx => by
      have h2 : x ∈ T.filter (fitsAll P K) := List.mem_filter.mpr ⟨hx, hfx⟩
      have h3 := hs.filter (fitsAll P K)
      rw [h] at h2 h3
      rcases List.mem_cons.mp h2 with rfl | h2
      · exact Nat.le_refl _
      · exact Nat.le_of_lt ((List.pairwise_cons.mp h3).1 x h2)
    have e := batch_some k hs hT hTA ha hfa hmin T [] rfl
    rw [List.filter_nil, List.append_nil] at e
    rw [e]
    refine ⟨kept_more k hs hAT hT hTA ha hfa hmin, hg.append ((hg.map _).trans ?_)⟩
    have nd1 : (K.map (a ^^^ ·)).Nodup := List.Pairwise.map (R := (· ≠ ·)) (fun x => a ^^^ x) (fun x y hne e => hne (by have := congrArg (a ^^^ ·) e; simpa [xor_cancel] using this)) (nodup_lt k.ord)
    refine (List.perm_ext_iff_of_nodup nd1 (nodup_lt (hs.filter _))).mpr fun x => ?_
    rw [List.mem_map, List.mem_filter]
    unfold inK
    rw [decide_eq_true_eq]
    constructor
    · rintro ⟨c, hc, rfl⟩
      exact ⟨hTA a ha c (k.sub c hc), by rw [xor_cancel]; exact hc⟩
    · rintro ⟨hx, hc⟩
      exact ⟨_, hc, xor_cancel a x⟩
end
end Mine
end
section
namespace Mine
theorem split_lt : ∀ {S : List Nat} (c : Nat), S.Pairwise (· < ·) → S = S.filter (fun x => decide (x < c)) ++ S.filter (fun x => !decide (x < c))
  | [], _, _ => rfl
  | x :: S, c, h => by
    obtain ⟨h1, h2⟩ := List.pairwise_cons.mp h
    by_cases hx : x < c
    · rw [List.filter_cons_of_pos (by simpa using hx), List.filter_cons_of_neg (by simpa using hx), List.cons_append, ← split_lt c h2]
    · have e : ∀ y ∈ x :: S, ¬ y < c := fun y hy => by
        rcases List.mem_cons.mp hy with rfl | hy
        · exact hx
        · have := h1 y hy; omega
      have e1 : (x :: S).filter (fun x => decide (x < c)) = [] := List.filter_eq_nil_iff.mpr fun y hy => by simpa using e y hy
      have e2 : (x :: S).filter (fun x => !decide (x < c)) = x :: S := List.filter_eq_self.mpr fun y hy => by simpa using e y hy
      rw [e1, e2, List.nil_append]
noncomputable def upTo (S : List Nat) (t : Nat) : List Nat := S.filter fun x => decide (x < 2 ^ t)
noncomputable def sizes (k : Nat) : List Nat := (List.range k).map (2 ^ ·)
noncomputable def greedyN (P : Nat → Bool) (S : List Nat) : List Nat := S.foldl (gStep P) []
theorem dStep_big {P : Nat → Bool} {S G : List Nat} {n : Nat} (h : S.length ≤ n) : dStep P S G n = G := by
  unfold dStep firstsN
  rw [List.drop_of_length_le h, List.take_nil]
  rfl
section
variable {P : Nat → Bool} {S : List Nat}
theorem twice (hs : S.Pairwise (· < ·)) (h0 : 0 ∈ S) (hc : ∀ x ∈ S, ∀ y ∈ S, x ^^^ y ∈ S) : ∀ t, ∃ k, (upTo S t).length = 2 ^ k ∧ Kept1 P (upTo S t) (greedyN P (upTo S t)) ∧ ((sizes k).foldl (dStep P S) (S.take 1)).Perm (greedyN P (upTo S t)) := by
  intro t
  induction t with
  | zero =>
    obtain ⟨R, rfl⟩ : ∃ R, S = 0 :: R := by
      cases S with
      | nil => cases h0
      | cons x R =>
        rcases List.mem_cons.mp h0 with h | h
        · exact ⟨R, by rw [← h]⟩
        · have := (List.pairwise_cons.mp hs).1 0 h; omega
    have e : upTo (0 :: R) 0 = [0] := by
      unfold upTo
      rw [List.filter_cons_of_pos (by decide), List.filter_eq_nil_iff.mpr]
      intro y hy
      have := (List.pairwise_cons.mp hs).1 y hy
      simp; omega
    rw [e]
    have e2 : greedyN P [0] = [0] := rfl
    rw [e2]
    refine ⟨0, rfl, ⟨.head _, fun x hx y hy => ?_, fun c hc h => absurd (List.mem_singleton.mp hc) h, fun c hc => hc, List.pairwise_singleton _ _, fun z hz hn => absurd hz hn⟩, List.Perm.refl _⟩
    rw [List.mem_singleton.mp hx, List.mem_singleton.mp hy]
    exact .head _
  | succ t ih =>
    obtain ⟨k, hk, K1, hp⟩ := ih
    have hsA : (upTo S (t + 1)).Pairwise (· < ·) := hs.filter _
    have sp := split_lt (2 ^ t) hsA
    have eA : (upTo S (t + 1)).filter (fun x => decide (x < 2 ^ t)) = upTo S t := by
      unfold upTo
      rw [List.filter_filter]
      refine List.filter_congr fun x _ => ?_
      have : 2 ^ t ≤ 2 ^ (t + 1) := Nat.pow_le_pow_right (by decide) (by omega)
      by_cases hx : x < 2 ^ t
      · simp [hx]; omega
      · simp [hx]
    rw [eA] at sp
    obtain ⟨T, hT⟩ : ∃ T, T = (upTo S (t + 1)).filter (fun x => !decide (x < 2 ^ t)) := ⟨_, rfl⟩
    rw [← hT] at sp
    have pos : 0 < 2 ^ t := Nat.pow_pos (by decide)
    have memA : ∀ x, x ∈ upTo S t ↔ x ∈ S ∧ x / 2 ^ t = 0 := fun x => by
      unfold upTo
      rw [List.mem_filter, decide_eq_true_eq, Nat.div_eq_zero_iff_lt pos]
    have memT : ∀ x, x ∈ T ↔ x ∈ S ∧ x / 2 ^ t = 1 := fun x => by
      rw [hT, List.mem_filter]
      unfold upTo
      rw [List.mem_filter, decide_eq_true_eq, Nat.pow_succ]
      simp only [Bool.not_eq_true', decide_eq_false_iff_not]
      constructor
      · rintro ⟨⟨h1, h2⟩, h3⟩
        refine ⟨h1, Nat.div_eq_of_lt_le (by omega) (by omega)⟩
      · rintro ⟨h1, h2⟩
        have := Nat.div_add_mod x (2 ^ t)
        have := Nat.mod_lt x pos
        rw [h2] at *
        exact ⟨⟨h1, by omega⟩, by omega⟩
    have hsT : T.Pairwise (· < ·) := by rw [hT]; exact hsA.filter _
    have hAT : ∀ v ∈ upTo S t, ∀ x ∈ T, v < x := fun v hv x hx => by
      rw [sp] at hsA
      exact (List.pairwise_append.mp hsA).2.2 v hv x hx
    have hTT : ∀ x ∈ T, ∀ y ∈ T, x ^^^ y ∈ upTo S t := fun x hx y hy => by
      obtain ⟨x1, x2⟩ := (memT x).mp hx
      obtain ⟨y1, y2⟩ := (memT y).mp hy
      exact (memA _).mpr ⟨hc x x1 y y1, by rw [Nat.xor_div_two_pow, x2, y2]; rfl⟩
    have hTA : ∀ x ∈ T, ∀ v ∈ upTo S t, x ^^^ v ∈ T := fun x hx y hy => by
      obtain ⟨x1, x2⟩ := (memT x).mp hx
      obtain ⟨y1, y2⟩ := (memA y).mp hy
      exact (memT _).mpr ⟨hc x x1 y y1, by rw [Nat.xor_div_two_pow, x2, y2]; rfl⟩
    rw [sp]
    have eg : greedyN P (upTo S t ++ T) = T.foldl (gStep P) (greedyN P (upTo S t)) := by unfold greedyN; rw [List.foldl_append]
    rw [eg]
    cases hTe : T with
    | nil => rw [List.append_nil]; exact ⟨k, hk, K1, hp⟩
    | cons b l =>
      rw [← hTe]
      have hb : b ∈ T := by rw [hTe]; exact .head _
      have hlen : T.length = 2 ^ k := by
        rw [← hk, ← List.length_map (b ^^^ ·) (as := upTo S t)]
        refine List.Perm.length_eq ((List.perm_ext_iff_of_nodup (nodup_lt hsT) ?_).mpr fun x => ?_)
        · exact List.Pairwise.map (R := (· ≠ ·)) (fun x => b ^^^ x) (fun x y hne e => hne (by have := congrArg (b ^^^ ·) e; simpa [xor_cancel] using this)) (nodup_lt (hs.filter _))
        · rw [List.mem_map]
          constructor
          · intro hx; exact ⟨b ^^^ x, hTT b hb x hx, xor_cancel b x⟩
          · rintro ⟨v, hv, rfl⟩; exact hTA b hb v hv
      obtain ⟨rest, hrest⟩ : ∃ r, S = (upTo S t ++ T) ++ r := ⟨_, by rw [← sp]; exact split_lt (2 ^ (t + 1)) hs⟩
      have hw : (S.drop (2 ^ k)).take (min (2 * 2 ^ k) S.length - 2 ^ k) = T := by
        have e1 : S.length = 2 ^ k + 2 ^ k + rest.length := by
          have := congrArg List.length hrest
          rw [List.length_append, List.length_append, hk, hlen] at this
          exact this
        have e2 : min (2 * 2 ^ k) S.length - 2 ^ k = T.length := by omega
        rw [e2]
        have e3 : S.drop (2 ^ k) = T ++ rest := by
          have e4 : ((upTo S t ++ T) ++ rest).drop (2 ^ k) = T ++ rest := by rw [List.append_assoc, ← hk, List.drop_left]
          rw [← hrest] at e4
          exact e4
        rw [e3, List.take_left]
      obtain ⟨k1, p1⟩ := batch K1 hp hw hsT hAT hTT hTA
      refine ⟨k + 1, ?_, k1, ?_⟩
      · rw [List.length_append, hk, hlen, Nat.pow_succ]; omega
      · have e5 : sizes (k + 1) = sizes k ++ [2 ^ k] := by unfold sizes; rw [List.range_succ, List.map_append]; rfl
        rw [e5, List.foldl_append]
        exact p1
theorem twice_all (hs : S.Pairwise (· < ·)) (h0 : 0 ∈ S) (hc : ∀ x ∈ S, ∀ y ∈ S, x ^^^ y ∈ S) (hb : ∀ x ∈ S, x < 2 ^ 12) (hl : S.length ≤ 16) : ([1, 2, 4, 8].foldl (dStep P S) (S.take 1)).Perm (greedyN P S) ∧ (greedyN P S).Pairwise (· < ·) := by
  obtain ⟨k, hk, K1, hp⟩ := twice (P := P) hs h0 hc 12
  have e : upTo S 12 = S := List.filter_eq_self.mpr fun x hx => decide_eq_true (hb x hx)
  rw [e] at hk K1 hp
  refine ⟨?_, K1.ord⟩
  have hk4 : k ≤ 4 := by
    apply Nat.le_of_not_lt
    intro h
    have := Nat.pow_le_pow_right (show 0 < 2 by decide) (show 5 ≤ k from h)
    omega
  have e4 : [1, 2, 4, 8] = sizes 4 := rfl
  have : k = 0 ∨ k = 1 ∨ k = 2 ∨ k = 3 ∨ k = 4 := by omega
  rcases this with rfl | rfl | rfl | rfl | rfl
  · simp only [List.foldl_cons, List.foldl_nil]
    rw [dStep_big (n := 8) (by omega), dStep_big (n := 4) (by omega), dStep_big (n := 2) (by omega), dStep_big (n := 1) (by omega)]
    exact hp
  · simp only [List.foldl_cons, List.foldl_nil]
    rw [dStep_big (n := 8) (by omega), dStep_big (n := 4) (by omega), dStep_big (n := 2) (by omega)]
    exact hp
  · simp only [List.foldl_cons, List.foldl_nil]
    rw [dStep_big (n := 8) (by omega), dStep_big (n := 4) (by omega)]
    exact hp
  · simp only [List.foldl_cons, List.foldl_nil]
    rw [dStep_big (n := 8) (by omega)]
    exact hp
  · exact hp
end
end Mine
end
section
open PySem PySem.W PyProof.Rows PySem.Calls
namespace Mine
/-- the number of rights, a Nat -/
noncomputable def nn (x : Int) : Nat := numN x.toNat
theorem numL_nn {x : Int} (h : 0 ≤ x ∧ x < 4096) : numL x = ((nn x : Nat) : Int) := by
  obtain ⟨a, rfl⟩ := Int.eq_ofNat_of_zero_le h.1
  exact numL_nat (by omega)
theorem nn_xor {x y : Int} (hx : 0 ≤ x ∧ x < 4096) (hy : 0 ≤ y ∧ y < 4096) : nn (Builtin.bitXor x y) = nn x ^^^ nn y := by
  obtain ⟨a, rfl⟩ := Int.eq_ofNat_of_zero_le hx.1
  obtain ⟨b, rfl⟩ := Int.eq_ofNat_of_zero_le hy.1
  rw [xor_nat]
  exact numN_lin a b
theorem nn_inj {x y : Int} (hx : 0 ≤ x ∧ x < 4096) (hy : 0 ≤ y ∧ y < 4096) (h : nn x = nn y) : x = y := by
  have := numN_inj (x := x.toNat) (y := y.toNat) (by omega) (by omega) h
  omega
theorem nn_map_inj : ∀ {l r : List Int}, (∀ x ∈ l, 0 ≤ x ∧ x < 4096) → (∀ x ∈ r, 0 ≤ x ∧ x < 4096) → l.map nn = r.map nn → l = r
  | [], [], _, _, _ => rfl
  | [], _ :: _, _, _, h => by simp at h
  | _ :: _, [], _, _, h => by simp at h
  | x :: l, y :: r, h1, h2, h => by
    rw [List.map_cons, List.map_cons] at h
    injection h with e1 e2
    rw [nn_inj (h1 x (.head _)) (h2 y (.head _)) e1, nn_map_inj (fun z hz => h1 z (.tail _ hz)) (fun z hz => h2 z (.tail _ hz)) e2]
/-- the whole sets that grow by exclusive or -/
theorem group_more {S : List Nat} {b : Nat} (nd : S.Nodup) (h0 : 0 ∈ S) (hc : ∀ x ∈ S, ∀ y ∈ S, x ^^^ y ∈ S) (hb : b ∉ S) :
    (S ++ S.map (· ^^^ b)).Nodup ∧ 0 ∈ S ++ S.map (· ^^^ b) ∧ ∀ x ∈ S ++ S.map (· ^^^ b), ∀ y ∈ S ++ S.map (· ^^^ b), x ^^^ y ∈ S ++ S.map (· ^^^ b) := by
  have cb : ∀ x : Nat, x ^^^ b ^^^ b = x := fun x => by rw [Nat.xor_assoc, Nat.xor_self, Nat.xor_zero]
  refine ⟨List.nodup_append.mpr ⟨nd, ?_, ?_⟩, List.mem_append.mpr (.inl h0), ?_⟩
  · exact List.Pairwise.map (R := (· ≠ ·)) (fun x => x ^^^ b) (fun x y hne e => hne (by have := congrArg (· ^^^ b) e; simpa [cb] using this)) nd
  · intro x hx y hy e
    obtain ⟨z, hz, rfl⟩ := List.mem_map.mp hy
    apply hb
    have := hc z hz x hx
    rw [e, ← Nat.xor_assoc, Nat.xor_self, Nat.zero_xor] at this
    exact this
  · intro x hx y hy
    rcases List.mem_append.mp hx with hx | hx <;> rcases List.mem_append.mp hy with hy | hy
    · exact List.mem_append.mpr (.inl (hc x hx y hy))
    · obtain ⟨z, hz, rfl⟩ := List.mem_map.mp hy
      exact List.mem_append.mpr (.inr (List.mem_map.mpr ⟨x ^^^ z, hc x hx z hz, Nat.xor_assoc ..⟩))
    · obtain ⟨z, hz, rfl⟩ := List.mem_map.mp hx
      refine List.mem_append.mpr (.inr (List.mem_map.mpr ⟨z ^^^ y, hc z hz y hy, ?_⟩))
      show z ^^^ y ^^^ b = z ^^^ b ^^^ y
      rw [Nat.xor_assoc, Nat.xor_assoc, Nat.xor_comm y b]
    · obtain ⟨z, hz, rfl⟩ := List.mem_map.mp hx
      obtain ⟨v, hv, rfl⟩ := List.mem_map.mp hy
      refine List.mem_append.mpr (.inl ?_)
      have e : z ^^^ b ^^^ (v ^^^ b) = z ^^^ v := by
        rw [Nat.xor_comm v b, Nat.xor_assoc, ← Nat.xor_assoc b b v, Nat.xor_self, Nat.zero_xor]
      show z ^^^ b ^^^ (v ^^^ b) ∈ S
      rw [e]
      exact hc z hz v hv
/-- the looks of one kind differ where the rights do -/
theorem look_ne {q : Int} {x y : Int} (hq : 0 ≤ q) (hx : 0 ≤ x ∧ x < 4096) (hy : 0 ≤ y ∧ y < 4096) (h : look (q * 4096 + x) = look (q * 4096 + y)) : x = y := by
  obtain ⟨k, rfl⟩ := Int.eq_ofNat_of_zero_le hq
  obtain ⟨a, rfl⟩ := Int.eq_ofNat_of_zero_le hx.1
  obtain ⟨b, rfl⟩ := Int.eq_ofNat_of_zero_le hy.1
  have e1 : (k : Int) * 4096 + (a : Int) = ((k * 4096 + a : Nat) : Int) := by omega
  have e2 : (k : Int) * 4096 + (b : Int) = ((k * 4096 + b : Nat) : Int) := by omega
  rw [e1, e2] at h
  have l1 := look_lt (q := k) (x := a) (y := b) (by omega) (by omega)
  have l2 := look_lt (q := k) (x := b) (y := a) (by omega) (by omega)
  rw [h] at l1 l2
  have n1 : ¬ numN a < numN b := fun h => List.lt_irrefl _ (l1.mpr h)
  have n2 : ¬ numN b < numN a := fun h => List.lt_irrefl _ (l2.mpr h)
  have := numN_inj (x := a) (y := b) (by omega) (by omega) (by omega)
  omega
theorem look_nn {q : Int} {x y : Int} (hq : 0 ≤ q) (hx : 0 ≤ x ∧ x < 4096) (hy : 0 ≤ y ∧ y < 4096) (h : ¬ (look (q * 4096 + y)).cps.toList < (look (q * 4096 + x)).cps.toList) : nn x ≤ nn y := by
  obtain ⟨k, rfl⟩ := Int.eq_ofNat_of_zero_le hq
  obtain ⟨a, rfl⟩ := Int.eq_ofNat_of_zero_le hx.1
  obtain ⟨b, rfl⟩ := Int.eq_ofNat_of_zero_le hy.1
  have e1 : (k : Int) * 4096 + (a : Int) = ((k * 4096 + a : Nat) : Int) := by omega
  have e2 : (k : Int) * 4096 + (b : Int) = ((k * 4096 + b : Nat) : Int) := by omega
  rw [e1, e2] at h
  have l2 := look_lt (q := k) (x := b) (y := a) (by omega) (by omega)
  show numN a ≤ numN b
  have : ¬ numN b < numN a := fun h' => h (l2.mpr h')
  omega
/-- the order of the looks is the order of the numbers -/
theorem rows_of {R rs : List Int} {q : Int} (hq : 0 ≤ q) (hR : ∀ r ∈ R, 0 ≤ r ∧ r < 4096) (hio : InOrder (R.map fun n => q * 4096 + n) rs) : rs.Perm R ∧ rs.Pairwise (fun x y => nn x ≤ nn y) := by
  obtain ⟨os, rfl, hp, ho⟩ := hio
  have hl : (R.map fun n => q * 4096 + n).length = R.length := List.length_map ..
  rw [hl] at hp
  have hat : ∀ k ∈ os, ∃ i : Nat, ∃ hi : i < R.length, k.toNat = i ∧ (R.map fun n => q * 4096 + n).getD k.toNat 0 = q * 4096 + R[i] := fun k hk => by
    obtain ⟨i, hi, rfl⟩ := List.mem_map.mp (hp.mem_iff.mp hk)
    have hi' := List.mem_range.mp hi
    refine ⟨i, hi', by omega, ?_⟩
    have e : (0 + (i : Int)).toNat = i := by omega
    rw [e]
    simp [hi']
  have him : ∀ {x : Int}, 0 ≤ x ∧ x < 4096 → imode (q * 4096 + x) = x := fun {x} hx => by
    rw [imode_eq (by omega)]; omega
  refine ⟨?_, ?_⟩
  · have h1 := hp.map fun k => imode ((R.map fun n => q * 4096 + n).getD k.toNat 0)
    refine h1.trans (List.Perm.of_eq ?_)
    refine List.ext_getElem (by simp) fun i h1 h2 => ?_
    have e : (0 + (i : Int)).toNat = i := by omega
    simp only [List.getElem_map, List.getElem_range]
    rw [e]
    have e2 : (R.map fun n => q * 4096 + n).getD i 0 = q * 4096 + R[i] := by simp [h2]
    rw [e2]
    exact him (hR _ (List.getElem_mem h2))
  · rw [List.pairwise_map]
    refine List.Pairwise.imp_of_mem ?_ ho
    intro x y hx hy h
    obtain ⟨i, hi, _, e1⟩ := hat x hx
    obtain ⟨j, hj, _, e2⟩ := hat y hy
    rw [e1, e2] at h ⊢
    have a1 := hR _ (List.getElem_mem hi)
    have a2 := hR _ (List.getElem_mem hj)
    rw [him a1, him a2]
    exact look_nn hq a1 a2 h
end Mine
end
section
open PySem PySem.W PyProof.Rows PySem.Calls
namespace Mine
inductive Grown : List Int → Prop
  | zero : Grown [0]
  | more {R : List Int} {q : Int} : Grown R → 0 ≤ q ∧ q < 4096 → R.any (· == q) = false → Grown (R ++ R.map fun x => Builtin.bitXor x q)
theorem grown_in {R : List Int} (h : Grown R) : In12 R := by
  induction h with
  | zero => intro r hr; rw [List.mem_singleton.mp hr]; decide
  | more _ hq _ ih =>
    intro r hr
    rcases List.mem_append.mp hr with hr | hr
    · exact ih r hr
    · obtain ⟨x, hx, rfl⟩ := List.mem_map.mp hr
      exact xor_in (ih x hx) hq
theorem lim_ok {a b y : Int} (ha : 0 ≤ a ∧ a < 64) (hb : 0 ≤ b ∧ b < 64) (hy : 1 ≤ y ∧ y ≤ 2) : LimOk ([a, b].take y.toNat) := by
  have : y = 1 ∨ y = 2 := by omega
  rcases this with rfl | rfl
  · exact .one ha
  · exact .two ha hb
theorem grown_nn {R : List Int} (h : Grown R) : (R.map nn).Nodup ∧ 0 ∈ R.map nn ∧ ∀ x ∈ R.map nn, ∀ y ∈ R.map nn, x ^^^ y ∈ R.map nn := by
  induction h with
  | zero => decide
  | @more R q hg hq hn ih =>
    have hR := grown_in hg
    have e : (R ++ R.map fun x => Builtin.bitXor x q).map nn = R.map nn ++ (R.map nn).map (· ^^^ nn q) := by
      rw [List.map_append, List.map_map, List.map_map]
      congr 1
      exact List.map_congr_left fun x hx => nn_xor (hR x hx) hq
    rw [e]
    refine group_more ih.1 ih.2.1 ih.2.2 fun hm => ?_
    obtain ⟨x, hx, hxq⟩ := List.mem_map.mp hm
    have := nn_inj (hR x hx) hq hxq
    rw [List.any_eq_false] at hn
    exact hn x hx (by rw [this]; exact beq_self_eq_true q)
theorem nodup_of_map {f : Int → Nat} : ∀ {l : List Int}, (l.map f).Nodup → l.Nodup := fun {l} h => by
  have : List.Pairwise (· ≠ ·) (l.map f) := h
  rw [List.pairwise_map] at this
  exact this.imp fun h e => h (by rw [e])
theorem looks_nodup {R : List Int} {q : Int} (h : Grown R) (hq : 0 ≤ q) : ((R.map fun n => q * 4096 + n).map look).Nodup := by
  have nd := nodup_of_map (grown_nn h).1
  have hR := grown_in h
  show List.Pairwise _ _
  rw [List.map_map, List.pairwise_map]
  exact List.Pairwise.imp_of_mem (fun hx hy hne e => hne (look_ne hq (hR _ hx) (hR _ hy) e)) nd
theorem fit_same {c e : UInt8} {lim : List Int} {side n : Int} (hs : side = 1 ∨ side = -1) : fitsL c e lim side n = dueFit c e lim side n := by
  unfold fitsL dueFit cmpZ
  generalize [sg c.toNat e.toNat (n / 64), sg c.toNat e.toNat (n % 64)] = x
  generalize lim.map (sg c.toNat e.toNat) = y
  rcases hs with rfl | rfl
  · by_cases h1 : y < x
    · have h2 : ¬ x < y := List.lt_asymm h1
      rw [decide_eq_true h1, decide_eq_false h2]; rfl
    · by_cases h2 : x < y
      · rw [decide_eq_false h1, decide_eq_true h2]; rfl
      · rw [decide_eq_false h1, decide_eq_false h2]; rfl
  · by_cases h1 : y < x
    · have h2 : ¬ x < y := List.lt_asymm h1
      rw [decide_eq_true h1, decide_eq_false h2]; rfl
    · by_cases h2 : x < y
      · rw [decide_eq_false h1, decide_eq_true h2]; rfl
      · rw [decide_eq_false h1, decide_eq_false h2]; rfl
/-- what fits, told by numbers -/
noncomputable def fitN (F : List Int) (z : Nat) : Bool := F.any fun f => nn f == z
theorem fit_at {F : List Int} (hF : In12 F) {x y : Int} (hx : 0 ≤ x ∧ x < 4096) (hy : 0 ≤ y ∧ y < 4096) : F.any (· == Builtin.bitXor x y) = fitN F (nn x ^^^ nn y) := by
  unfold fitN
  rw [← nn_xor hx hy, Bool.eq_iff_iff, List.any_eq_true, List.any_eq_true]
  constructor
  · rintro ⟨f, hf, e⟩
    exact ⟨f, hf, by rw [eq_of_beq e]; exact beq_self_eq_true _⟩
  · rintro ⟨f, hf, e⟩
    exact ⟨f, hf, by rw [nn_inj (hF f hf) (xor_in hx hy) (eq_of_beq e)]; exact beq_self_eq_true _⟩
theorem fits_all {F G : List Int} (hF : In12 F) (hG : In12 G) {x : Int} (hx : 0 ≤ x ∧ x < 4096) : (G.filter (fun o => !(F.any (· == Builtin.bitXor x o))) = []) ↔ fitsAll (fitN F) (G.map nn) (nn x) = true := by
  unfold fitsAll
  rw [List.filter_eq_nil_iff, List.all_eq_true]
  constructor
  · intro h o ho
    obtain ⟨y, hy, rfl⟩ := List.mem_map.mp ho
    have := h y hy
    rw [fit_at hF hx (hG y hy)] at this
    simpa using this
  · intro h y hy
    have := h _ (List.mem_map.mpr ⟨y, hy, rfl⟩)
    rw [fit_at hF hx (hG y hy), this]
    decide
theorem kept_nn {F : List Int} (hF : In12 F) : ∀ (l acc : List Int), In12 l → In12 acc → In12 (l.foldl (keptStep F) acc) ∧ (l.foldl (keptStep F) acc).map nn = (l.map nn).foldl (gStep (fitN F)) (acc.map nn)
  | [], acc, _, h => ⟨h, rfl⟩
  | x :: l, acc, hl, ha => by
    have hx := hl x (.head _)
    have hl' : In12 l := fun r hr => hl r (.tail _ hr)
    rw [List.foldl_cons, List.map_cons, List.foldl_cons]
    have e := fits_all hF ha hx
    by_cases h : fitsAll (fitN F) (acc.map nn) (nn x) = true
    · have e1 : keptStep F acc x = acc ++ [x] := if_pos (e.mpr h)
      have e2 : gStep (fitN F) (acc.map nn) (nn x) = (acc ++ [x]).map nn := by unfold gStep; rw [if_pos h, List.map_append]; rfl
      rw [e1, e2]
      refine kept_nn hF l _ hl' fun r hr => ?_
      rcases List.mem_append.mp hr with hr | hr
      · exact ha r hr
      · rw [List.mem_singleton.mp hr]; exact hx
    · have e1 : keptStep F acc x = acc := if_neg fun h' => h (e.mp h')
      have e2 : gStep (fitN F) (acc.map nn) (nn x) = acc.map nn := by unfold gStep; rw [if_neg h]
      rw [e1, e2]
      exact kept_nn hF l _ hl' ha
theorem due_nn {F row G : List Int} (hF : In12 F) (hr : In12 row) (hG : In12 G) (n : Nat) : (dueStep row F G (n : Int)).map nn = dStep (fitN F) (row.map nn) (G.map nn) n := by
  have e1 : (n : Int).toNat = n := by omega
  have e2 : (2 * (n : Int)).toNat = 2 * n := by omega
  have ef : (firstsL row F G (n : Int)).map nn = firstsN (fitN F) (row.map nn) (G.map nn) n := by
    unfold firstsL firstsN
    rw [e1, e2, List.length_map, ← List.map_drop, ← List.map_take, List.filter_map]
    congr 1
    refine List.filter_congr fun x hx => ?_
    have hx' := hr x (List.mem_of_mem_drop (List.mem_of_mem_take hx))
    rw [Bool.eq_iff_iff, decide_eq_true_eq]
    exact fits_all hF hG hx'
  unfold dueStep dStep
  rw [← ef]
  cases h : firstsL row F G (n : Int) with
  | nil => rfl
  | cons a l =>
    have ha := hr a (firsts_mem (fit := F) (G := G) (n := n) (by rw [h]; exact .head _))
    show (G ++ G.map (Builtin.bitXor a)).map nn = G.map nn ++ (G.map nn).map (nn a ^^^ ·)
    rw [List.map_append, List.map_map, List.map_map]
    exact congrArg _ (List.map_congr_left fun y hy => nn_xor ha (hG y hy))
theorem dueFold_nn {F row : List Int} (hF : In12 F) (hr : In12 row) : ∀ (l : List Nat) (G : List Int), In12 G → ((l.map fun (n : Nat) => (n : Int)).foldl (dueStep row F) G).map nn = l.foldl (dStep (fitN F) (row.map nn)) (G.map nn)
  | [], _, _ => rfl
  | n :: l, G, hG => by
    rw [List.map_cons, List.foldl_cons, List.foldl_cons, ← due_nn hF hr hG n]
    exact dueFold_nn hF hr l _ (dueStep_in hr hG)
theorem sort_same {l r : List Nat} (h : l.Perm r) (h1 : l.Pairwise (· ≤ ·)) (h2 : r.Pairwise (· ≤ ·)) : l = r :=
  List.Perm.eq_of_pairwise (le := (· ≤ ·)) (fun _ _ _ _ => Nat.le_antisymm) h1 h2 h
theorem num_le {l : List Int} (h : In12 l) (hp : l.Pairwise (fun x y => numL x ≤ numL y)) : (l.map nn).Pairwise (· ≤ ·) := by
  rw [List.pairwise_map]
  refine List.Pairwise.imp_of_mem ?_ hp
  intro x y hx hy hxy
  rw [numL_nn (h x hx), numL_nn (h y hy)] at hxy
  omega
theorem plain_law {R rs out lim : List Int} {q side : Int} {c e : UInt8} (hG : Grown R) (hlen : R.length ≤ 16) (hs : side = 1 ∨ side = -1) (hq : 0 ≤ q) (hio : InOrder (R.map fun n => q * 4096 + n) rs) (hdue : DueOf (R.filter (dueFit c e lim side)) R out) :
    keptL (fitsL c e lim side) rs = out := by
  have hR := grown_in hG
  obtain ⟨nd, h0, hc⟩ := grown_nn hG
  obtain ⟨p1, o1⟩ := rows_of hq hR hio
  obtain ⟨row, p2, o2, p3, o3⟩ := hdue
  have hrs : In12 rs := fun r hr => hR r (p1.mem_iff.mp hr)
  have hrow : In12 row := fun r hr => hR r (p2.mem_iff.mp hr)
  have e1 : rs.map nn = row.map nn := sort_same ((p1.trans p2.symm).map nn) (List.pairwise_map.mpr o1) (num_le hrow o2)
  have e2 : rs = row := nn_map_inj hrs hrow e1
  subst e2
  have ef : ∀ f ∈ rs.filter (fitsL c e lim side), f ∈ R.filter (dueFit c e lim side) := fun f hf => by
    obtain ⟨h1, h2⟩ := List.mem_filter.mp hf
    exact List.mem_filter.mpr ⟨p1.mem_iff.mp h1, by rw [← fit_same hs]; exact h2⟩
  have ef' : ∀ f ∈ R.filter (dueFit c e lim side), f ∈ rs.filter (fitsL c e lim side) := fun f hf => by
    obtain ⟨h1, h2⟩ := List.mem_filter.mp hf
    exact List.mem_filter.mpr ⟨p1.mem_iff.mpr h1, by rw [fit_same hs]; exact h2⟩
  obtain ⟨F, hF⟩ : ∃ F, F = R.filter (dueFit c e lim side) := ⟨_, rfl⟩
  obtain ⟨K, hK⟩ : ∃ K, K = rs.filter (fitsL c e lim side) := ⟨_, rfl⟩
  have hF12 : In12 F := fun r hr => by rw [hF] at hr; exact hR r (List.mem_filter.mp hr).1
  have hK12 : In12 K := fun r hr => by rw [hK] at hr; exact hrs r (List.mem_filter.mp hr).1
  rw [← hF, ← hK] at ef ef'
  have eP : fitN K = fitN F := by
    funext z
    unfold fitN
    rw [Bool.eq_iff_iff, List.any_eq_true, List.any_eq_true]
    exact ⟨fun ⟨f, h1, h2⟩ => ⟨f, ef f h1, h2⟩, fun ⟨f, h1, h2⟩ => ⟨f, ef' f h1, h2⟩⟩
  have hS : (rs.map nn).Pairwise (· < ·) := by
    have h1 : (rs.map nn).Pairwise (· ≤ ·) := List.pairwise_map.mpr o1
    have h2 : (rs.map nn).Nodup := (p1.map nn).nodup_iff.mpr nd
    exact (h1.and h2).imp fun ⟨a, b⟩ => Nat.lt_of_le_of_ne a b
  have hm : ∀ z, z ∈ rs.map nn ↔ z ∈ R.map nn := fun z => (p1.map nn).mem_iff
  obtain ⟨t1, t2⟩ := twice_all (P := fitN F) hS ((hm 0).mpr h0) (fun x hx y hy => (hm _).mpr (hc x ((hm x).mp hx) y ((hm y).mp hy))) (fun x hx => by
    obtain ⟨y, _, rfl⟩ := List.mem_map.mp hx
    exact numN_lt _) (by rw [List.length_map, p1.length_eq]; exact hlen)
  obtain ⟨k1, k2⟩ := kept_nn hK12 rs [] hrs (fun r hr => nomatch hr)
  have k3 : (keptL (fitsL c e lim side) rs).map nn = greedyN (fitN F) (rs.map nn) := by
    unfold keptL greedyN
    rw [← hK, k2, eP]; rfl
  have k4 : In12 (keptL (fitsL c e lim side) rs) := by unfold keptL; rw [← hK]; exact k1
  have hG1 : In12 (rs.take 1) := fun r hr => hrs r (List.mem_of_mem_take hr)
  have d1 := dueFold_nn hF12 hrs [1, 2, 4, 8] (rs.take 1) hG1
  rw [List.map_take] at d1
  have d2 : In12 ([(1 : Int), 2, 4, 8].foldl (dueStep rs F) (rs.take 1)) := dueFold_in hrs _ _ hG1
  rw [← hF] at p3
  have hout : In12 out := fun r hr => d2 r (p3.mem_iff.mp hr)
  have p4 : (out.map nn).Perm (greedyN (fitN F) (rs.map nn)) := by
    refine (p3.map nn).trans ?_
    refine List.Perm.trans (List.Perm.of_eq d1) t1
  refine nn_map_inj k4 hout ?_
  rw [k3]
  exact (sort_same p4 (num_le hout o3) (t2.imp fun h => Nat.le_of_lt h)).symm
end Mine
end
section
open PySem PySem.W PyProof.Rows PySem.Calls
namespace Mine
set_option pp.deepTerms false
set_option pp.maxSteps 3000
set_option maxRecDepth 100000

theorem lines1_Law : True := by
  w_top off
  k_with_none
  k_with "eval Constant int" => ((with_reducible refine const_c ?_; intro _ _; (try dsimp only)))
  k_with "binaryOp Add int int" => ((with_reducible refine add_c ?_; intro _ _; (try dsimp only)))
  k_with "binaryOp Sub int int" => ((with_reducible refine sub_c ?_; intro _ _; (try dsimp only)))
  k_with "binaryOp BitAnd int int" => ((with_reducible refine and_c ?_; intro _ _; (try dsimp only)))
  k_with "binaryOp BitOr int int" => ((with_reducible refine or_c ?_; intro _ _; (try dsimp only)))
  k_with "binaryOp BitXor int int" => ((with_reducible refine xor_c ?_; intro _ _; (try dsimp only)))
  k_with "binaryOp Mod int int" => ((with_reducible refine mod_c (by decide) ?_; intro _ _; (try dsimp only)))
  k_with "binaryOp FloorDiv int int" => ((with_reducible refine div_c (by decide) (by decide) ?_; intro _ _; (try dsimp only)))
  k_with "binaryOp Mult int int" => ((with_reducible refine mul_c (by constructor <;> omega) (by constructor <;> omega) ?_; intro _ _; (try dsimp only)))
  k_with "binaryOp LShift int int" => ((with_reducible refine shl_c (by constructor <;> omega) (by constructor <;> omega) ?_; intro _ _; (try dsimp only)))
  k_with "binaryOp RShift int int" => ((with_reducible refine shr_c (by omega) ?_; intro _ _; (try dsimp only)))
  k_with "binaryOp Pow int int" => ((with_reducible refine pow_c (by constructor <;> omega) (by constructor <;> omega) ?_; intro _ _; (try dsimp only)))
  k_with "newList" => ((k_here; k_dflt (refine' newList_K ?k1_kw ?k2_kw ?_; (case k1_kw => k_asm); (case k2_kw => k_asm); k_whole); intro _ _ _ _ l1; replace l1 := Apart.mk (off1_of fun p hp => Nat.ne_of_lt (l1 p hp)); (try k_sweep); revert l1; intro _))
  k_with "eval BinOp" => ((k_here; k_dflt (refine' ari_c ?k_kw ?F_kw ?A_kw (fun _ _ => ?_); (case k_kw => rfl); (case F_kw => k_asm); (case A_kw => (repeat' (first | with_reducible refine' Ari.bin ?_ ?_ ?_ | with_reducible exact OpIs.add | with_reducible exact OpIs.sub | with_reducible exact OpIs.or | with_reducible refine' OpIs.mod ?_ | with_reducible refine' OpIs.div ?_ | with_reducible refine' OpIs.mul ?_ ?_ | with_reducible refine' OpIs.shl ?_ ?_ | with_reducible refine' OpIs.shr ?_ | with_reducible refine' OpIs.pow ?_ ?_ | with_reducible exact Ari.const | exact Ari.name rfl rfl (by decide) | (show _ ∧ _; first | decide | exact ⟨by omega, by omega⟩) | (show _ < _; first | decide | omega) | (show _ ≤ _; first | decide | omega))))); (try dsimp only)))
  k_with "eval ListComp" => ((k_here; first
  | (lct_look; k_dflt (refine LCt.ListComp_T (F₀ := by k_asm) (by with_unfolding_all rfl) (by decide) (by rfl) (by decide) (by rfl) ?_))
  | (k_dflt (refine LCg.ListComp_U (F₀ := by k_asm) (by with_unfolding_all rfl) (by decide) (by rfl) (by decide) (by rfl) ?_))))
  k_with "CompSrc" => ((k_here; refine hold ?_))
  k_with "CompSrcT" => ((k_here; refine hold ?_))
  k_with "call builtin:sorted" => ((k_here; refine hold ?_))
  trivial
theorem lines2_Law : True := by
  k_with "FinE" => (((unfold LCg.FinE); intro _ _ _ _ N' o1'; replace o1' := Apart.mk o1'; (try simp only [List.nil_append, List.cons_append] at N'); (try dsimp only); revert N' o1'; intro _ _))
  k_with "FinA" => (((unfold LCg.FinA); intro _ _ _ _ N' o1'; replace o1' := Apart.mk o1'; (try simp only [List.nil_append, List.cons_append] at N'); (try dsimp only); revert N' o1'; intro _ _))
  k_with "compareOp NotIn int ref" => ((k_here; k_dflt (refine notin_list_ints (by with_reducible assumption) (by with_reducible assumption) ?_)))
  k_with "subscriptTail" => ((k_here; (with_reducible show wpAny _ _ (subscriptTail _ _ (Value.ref _) (Value.int _ _)) _ _ _); k_dflt (first
  | (refine' sub_strs ?h1_kw ?h2_kw ?h3_kw ?h4_kw (fun t' => ?_) ?h5_kw; (case h1_kw => with_reducible assumption); (case h2_kw => with_reducible assumption); (case h3_kw => first | with_reducible assumption | omega); (case h4_kw => with_reducible assumption); (case h5_kw => with_unfolding_all rfl))
  | (refine' sub_ints ?h1_kw ?h2_kw ?h3_kw ?h4_kw (fun t' => ?_) ?h5_kw; (case h1_kw => with_reducible assumption); (case h2_kw => with_reducible assumption); (case h3_kw => first | with_reducible assumption | omega); (case h4_kw => with_reducible assumption); (case h5_kw => with_unfolding_all rfl)))))
  k_with "call ref" => ((k_here; refine hold ?_))
  k_with "compareOp Eq ref ref" => ((k_here; k_dflt (refine' eq_intsK ?s1_kw ?s2_kw ?s3_kw ?s4_kw ?s5_kw ?_; (case s1_kw => with_reducible assumption); (case s2_kw => with_reducible assumption); (case s3_kw => with_reducible assumption); (case s4_kw => with_reducible assumption); (case s5_kw => ktr_units))))
  trivial
theorem modes_pos {R : List Int} {q : Int} (h : In12 R) (hq : 0 ≤ q) : ∀ n ∈ R.map (fun n => q + n), 0 ≤ n := by
  intro n hn
  obtain ⟨x, hx, rfl⟩ := List.mem_map.mp hn
  have := (h x hx).1
  omega
theorem tab_not_list {ps its : Array Value} {n : Nat} : ¬ (tabObj ps).cls = (W.listOf its n).cls := by
  intro e
  cases e
theorem lines3_Law : True := by
  k_with "GrownAll" => (((try dsimp only); assumption))
  k_with "exec For Name Tuple cons nil" => ((k_here; refine hold ?_))
  k_with "eval IfExp" => ((k_here; refine hold ?_))
  k_with "call builtin:sum" => ((k_here; (with_reducible show wpAny _ _ (call (Value.builtin "sum") [Value.ref _]) _ _ _); k_dflt (refine' sum_ints ?F_kw ?N_kw rfl ?l_kw ?i_kw (fun _ _ _ _ _ => ?_); (case F_kw => k_asm); (case N_kw => k_asm); (case l_kw => kmk_list); (case i_kw => with_reducible assumption))))
  k_with "subscriptTail Name Slice ref ref" => ((k_here; (with_reducible show wpAny _ _ (subscriptTail _ (PySem.Expr.Slice _ _ (some _) _) (Value.ref _) (Value.ref _)) _ _ _); k_dflt (refine' slice3_e ?s1_kw ?s2_kw ?s3_kw ?s4_kw ?s5_kw ?s6_kw ?s7_kw ?s8_kw ?s9_kw ?_ ?s10_kw ?s11_kw; (case s1_kw => k_asm); (case s2_kw => k_asm); (case s3_kw => kmk_list); (case s4_kw => with_reducible assumption); (case s5_kw => omega); (case s6_kw => kmk_part); (case s7_kw => kmk_part); (case s8_kw => kmk_part); (case s9_kw => decide); (case s10_kw => with_unfolding_all rfl); (case s11_kw => kmk_pure)); intro _ _ _ _ _ _ l1 hI'; replace l1 := Apart.mk (off1_of fun p hp => Nat.ne_of_lt (l1 p hp)); revert hI' l1; intro _ _))
  k_with "subscriptTail" => ((k_here; (with_reducible show wpAny _ _ (subscriptTail _ _ (Value.ref _) (Value.int _ _)) _ _ _); k_dflt (refine' sub_ints ?h1_kw ?h2_kw ?h3_kw ?h4_kw (fun _ => ?_) ?h5_kw; (case h1_kw => kmk_list); (case h2_kw => exact .cons _ _ (.cons _ _ (.cons _ _ (.cons _ _ .nil)))); (case h3_kw => decide); (case h4_kw => assumption); (case h5_kw => with_unfolding_all rfl))))
  k_with "subscriptTail List Slice ref ref" => ((k_here; (with_reducible show wpAny _ _ (subscriptTail _ (PySem.Expr.Slice none _ none _) (Value.ref _) (Value.ref _)) _ _ _); k_dflt (refine' slice_up ?s1_kw ?s2_kw ?s3_kw ?s4_kw ?s5_kw ?s6_kw ?_ ?s7_kw; (case s1_kw => k_asm); (case s2_kw => k_asm); (case s3_kw => kmk_list); (case s4_kw => exact .cons _ _ (.cons _ _ .nil)); (case s5_kw => exact Nat.le_of_ble_eq_true rfl); (case s6_kw => omega); (case s7_kw => with_unfolding_all rfl)); intro _ _ _ _ _ l1 hI'; replace l1 := Apart.mk (off1_of fun p hp => Nat.ne_of_lt (l1 p hp)); revert hI' l1; intro _ _))
  k_with "subscriptTail" => ((k_here; (with_reducible show wpAny _ _ (subscriptTail _ (PySem.Expr.Slice none _ none _) (Value.ref _) (Value.ref _)) _ _ _); k_dflt (refine' slice_up ?s1_kw ?s2_kw ?s3_kw ?s4_kw ?s5_kw ?s6_kw ?_ ?s7_kw; (case s1_kw => k_asm); (case s2_kw => k_asm); (case s3_kw => kmk_list); (case s4_kw => exact .cons _ _ (.cons _ _ .nil)); (case s5_kw => exact Nat.le_of_ble_eq_true rfl); (case s6_kw => omega); (case s7_kw => with_unfolding_all rfl)); intro _ _ _ _ _ l1 hI'; replace l1 := Apart.mk (off1_of fun p hp => Nat.ne_of_lt (l1 p hp)); revert hI' l1; intro _ _))
  k_with "subscriptTail" => ((k_here; (with_reducible show wpAny _ _ (subscriptTail _ _ (Value.ref _) (Value.int _ _)) _ _ _); k_dflt (refine' sub_pair ?s1_kw ?s2_kw (fun _ _ _ => ?_) ?s3_kw; (case s1_kw => kmk_list); (case s2_kw => (constructor <;> omega)); (case s3_kw => with_unfolding_all rfl))))
  trivial
set_option maxRecDepth 100000 in
set_option maxHeartbeats 1200000 in
theorem law_holds : Challenge.rw_oy0045_01.Holds := hd (by
  k_go0
  (all_goals try k_fold)
  k_steps
  rename_i wd s0 s1 mg mb GG YY fa oo pm cd doc ho hcd hg XM VV T0 B0 TE TW args hs hlay0 hLy hr1 hl2 wa wb lA vA wc hLA ra w1 r0 hIA hrA hc1 hc2 hD hh1 htk1 oStep oTot dStep0 dTot0 X0 X T B l0 t4 k3 Dr wr h5 hIr hCr hLr lr1 h4 tk1 h3 tk3 t3 t2 k2 t1 k1 h2 oT dT tkx tt kk Dk h1 lk h0 F N
  unfold Hold
  (try clear XM VV T0 B0 TE TW YY GG X0 dTot0)
  obtain ⟨tot, htot⟩ : ∃ tot, tot = (args.take 60).sum % 824633720832 := ⟨_, rfl⟩
  rw [← htot] at dT
  have ht0 : 0 ≤ tot ∧ tot < 824633720832 := by omega
  have hr60 : (args.take 60).length ≤ 60 := by rw [hCr]; omega
  replace F : Fr (ghostOf s1.heap [(142, 140)]) s1.heap.objs.size h0 (fun z => if z = Str.ofString "rights" then some (Value.ref Dk) else (fun z => if z = Str.ofString "row" then some (Value.ref Dr) else if z = Str.ofString "script" then some (Value.ref lA) else none) z) := F
  have F0 : Fr (ghostOf s1.heap [(142, 140)]) s1.heap.objs.size h0 (fun z => if z = Str.ofString "k" then none else if z = Str.ofString "rights" then some (Value.ref Dk) else (fun z => if z = Str.ofString "row" then some (Value.ref Dr) else if z = Str.ofString "script" then some (Value.ref lA) else none) z) := by
    have e : (fun z => if z = Str.ofString "k" then none else if z = Str.ofString "rights" then some (Value.ref Dk) else (fun z => if z = Str.ofString "row" then some (Value.ref Dr) else if z = Str.ofString "script" then some (Value.ref lA) else none) z) = (fun z => if z = Str.ofString "rights" then some (Value.ref Dk) else (fun z => if z = Str.ofString "row" then some (Value.ref Dr) else if z = Str.ofString "script" then some (Value.ref lA) else none) z) := by
      funext z
      by_cases hz : z = Str.ofString "k"
      · subst hz; rfl
      · simp only [if_neg hz]
    rw [e]
    exact F
  clear F
  have N0 : News (ghostOf s1.heap [(142, 140)]) s1.heap.objs.size h0 ((s1.heap.objs.size + 1 + 1, oStep) :: (Dk, W.listOf #[.int 0 tt] 0) :: [(Dr, W.listOf wr.toArray 0), (s1.heap.objs.size + 1, oT), (140, tabObj #[])]) := News.pick N (List.forall_mem_cons.mpr ⟨by k_mem, List.forall_mem_cons.mpr ⟨by k_mem, List.forall_mem_cons.mpr ⟨by k_mem, List.forall_mem_cons.mpr ⟨by k_mem, List.forall_mem_cons.mpr ⟨by k_mem, List.forall_mem_nil _⟩⟩⟩⟩⟩)
  clear N
  have hoff : ∀ p ∈ [(Dr, W.listOf wr.toArray 0), (s1.heap.objs.size + 1, oT), (140, tabObj #[])], p.1 ≠ s1.heap.objs.size + 1 + 1 := by k_all
  have hDs : Dk ≠ s1.heap.objs.size + 1 + 1 := by k_ne
  clear lk
  refine for_two (h₀ := (ghostOf s1.heap [(142, 140)])) (x := Str.ofString "k") (y := Str.ofString "rights") (cs := s1.heap.objs.size + 1 + 1) (D₀ := Dk) (os₀ := oStep) (ks₀ := [.int 0 tt]) (kd₀ := 0) (u₀ := none) (m := (fun z => if z = Str.ofString "row" then some (Value.ref Dr) else if z = Str.ofString "script" then some (Value.ref lA) else none)) (own := [(Dr, W.listOf wr.toArray 0), (s1.heap.objs.size + 1, oT), (140, tabObj #[])]) (R₀ := [0]) [0, 1, 2, 3] (fun i R => Grown R ∧ R.length ≤ 2 ^ i) rfl dStep0 (.cons _ _ .nil) hDs ⟨.zero, by decide⟩ hoff rfl rfl ?hev ?turn ?done (fun _ => rfl) (by passes_own)
  case hev =>
    k_steps
    show TupAt (ghostOf s1.heap [(142, 140)]) s1.heap.objs.size _ [0, 1, 2, 3] _ _ _ _
    exact .mk (by with_reducible assumption) (by with_reducible assumption) (by k_all) (.cons _ _ (.cons _ _ (.cons _ _ (.cons _ _ .nil))))
  case turn =>
    intro i n u2 h tk own' R D ks kd os v hi hP hos hks hDs hsub hof F N
    clear F0 N0 hoff
    obtain ⟨hG, hlen⟩ := hP
    have hi4 : i < 4 := (List.getElem?_eq_some_iff.mp hi).1
    have hn4 : At n 4 := by
      have h1 : n ∈ [(0 : Int), 1, 2, 3] := List.mem_of_getElem? hi
      simp only [List.mem_cons, List.not_mem_nil, or_false] at h1
      exact ⟨by omega, by omega⟩
    have hl8 : R.length ≤ 8 := Nat.le_trans hlen (Nat.pow_le_pow_right (by decide) (Nat.le_of_lt_succ hi4))
    replace F : Fr (ghostOf s1.heap [(142, 140)]) s1.heap.objs.size h _ := F
    have N2 : News (ghostOf s1.heap [(142, 140)]) s1.heap.objs.size h ((s1.heap.objs.size + 1 + 1, os) :: (D, W.listOf ks.toArray kd) :: (Dr, W.listOf wr.toArray 0) :: own') := News.pick N (List.forall_mem_cons.mpr ⟨.head _, List.forall_mem_cons.mpr ⟨.tail _ (.head _), List.forall_mem_cons.mpr ⟨.tail _ (.tail _ (hsub _ (by k_mem))), fun p hp => .tail _ (.tail _ hp)⟩⟩⟩)
    clear N
    k_steps
    rename_i DS wS msS hS hIS lS hS2 tkS tS8 tS7 kS6 tS6 kS5 tS5 kS4 tS4 kS3 lL hL FL NL lLt ta tb kb tc kc td ke
    generalize hq : (msS.sum + [3904, 328, 8, 0].getD n.toNat 0) % 4096 = q
    have hq0 : 0 ≤ q ∧ q < 4096 := by omega
    refine cell_c (h₀ := (ghostOf s1.heap [(142, 140)])) ((D, W.listOf ks.toArray kd) :: own') rfl rfl rfl FL NL (by k_mem) hos (List.forall_mem_cons.mpr ⟨by k_mem, fun p hp => .tail _ (.tail _ (.tail _ (.tail _ (.tail _ hp))))⟩) (List.forall_mem_cons.mpr ⟨hDs, hof⟩) (fun h' o' F dq N => ?_)
    replace F : Fr (ghostOf s1.heap [(142, 140)]) s1.heap.objs.size h' _ := F
    replace N : News (ghostOf s1.heap [(142, 140)]) s1.heap.objs.size h' _ := N
    clear FL NL lLt lS hIS
    have hLD := list_of N (vs := ks) (n := kd) (by k_mem)
    k_steps
    · show TwoEnd (ghostOf s1.heap [(142, 140)]) s1.heap.objs.size _ _ _ _ own' _ _ _ _ _
      exact ⟨_, _, rfl, rfl, R, D, ks, kd, o', _, _, ⟨hG, Nat.le_trans hlen (Nat.pow_le_pow_right (by decide) (Nat.le_succ i))⟩, dq, hks, hDs, F, fun _ => rfl, N⟩
    · unfold Hold
      have hnew : R.any (· == q) = false := by with_reducible assumption
      refine src_map (vs := ks) (ns := R) (fun y v => ∃ t, v = .int (Builtin.bitXor y q) t) rfl (by k_asm) (by k_asm) (.inr ⟨_, (by k_mem : (D, _) ∈ _), rfl, _, rfl⟩) hks (by omega) ?m1 ?m2
      case m1 =>
        intro y t I oI C oC D₂ m₂ ys₂ h tk E' ho hC hx F N o3 ne
        k_steps
        all_goals exact ⟨_, _, rfl, fun _ _ e => e, _, rfl⟩
      case m2 =>
        intro ys8 hh8 hl8 hR8
        have hX8 := ints_map (fun y => Builtin.bitXor y q) hl8 hR8
        clear hR8 hLD
        k_steps
        rename_i DX hX tkX offX DY wsY hY hIY lY hZ FZ NZ
        show TwoEnd (ghostOf s1.heap [(142, 140)]) s1.heap.objs.size _ _ _ _ own' _ _ _ _ _
        refine ⟨_, _, rfl, rfl, _, DY, wsY, 0, o', _, _, ⟨.more hG hq0 hnew, ?_⟩, dq, hIY, (by k_ne), FZ, ?_, News.pick NZ (List.forall_mem_cons.mpr ⟨by k_mem, List.forall_mem_cons.mpr ⟨by k_mem, fun p hp => .tail _ (.tail _ (.tail _ (.tail _ hp)))⟩⟩)⟩
        · simp only [List.length_append, List.length_map, Nat.pow_succ]; omega
        · intro z
          by_cases hz : z = Str.ofString "k"
          · subst hz; rfl
          · by_cases hr : z = Str.ofString "rights"
            · simp only [if_neg hz, if_pos hr]
            · simp only [if_neg hz, if_neg hr]
  case done =>
    intro u h tk hT
    clear F0 N0 hoff hDs
    obtain ⟨R, D, ks, kd, os, v, m', ⟨hG, hlen⟩, hos, hks, hDs, F, hm', N⟩ := hT
    replace hlen : R.length ≤ 16 := hlen
    have hRin := grown_in hG
    obtain rfl : m' = fun z => if z = Str.ofString "k" then u else if z = Str.ofString "rights" then some (Value.ref D) else (fun z => if z = Str.ofString "row" then some (Value.ref Dr) else if z = Str.ofString "script" then some (Value.ref lA) else none) z := funext hm'
    clear hm'
    replace F : Fr (ghostOf s1.heap [(142, 140)]) s1.heap.objs.size h _ := F
    replace N : News (ghostOf s1.heap [(142, 140)]) s1.heap.objs.size h _ := N
    k_steps
    rename_i DL wL hL4 hIL ltL hZ FZ NZ
    unfold Hold
    refine ifexp_c (tot / 16777216 % 2 = 0) 1 (-1) ?sd1 (fun tS kS => ?sd2)
    case sd1 =>
      k_steps
      all_goals first | exact got_pos (by assumption) | exact got_neg (by assumption)
    case sd2 =>
      have hs1 : (if tot / 16777216 % 2 = 0 then (1 : Int) else -1) = 1 ∨ (if tot / 16777216 % 2 = 0 then (1 : Int) else -1) = -1 := by
        split
        · exact .inl rfl
        · exact .inr rfl
      generalize (if tot / 16777216 % 2 = 0 then (1 : Int) else -1) = sd at hs1 ⊢
      k_steps
      rename_i cP eP tP hM FM NM
      unfold Hold
      have hlk := lim_ok (a := (tot / 4096 + 3649) % 4096 / 64) (b := (tot / 4096 + 3649) % 4096 % 64) (y := 1 + tot / 412316860416) (by omega) (by omega) (by omega)
      refine src_map (vs := ks) (ns := R) (fun n y => ∃ t, y = .int (tot / 100663296 % 4096 * 4096 + n) t) rfl (by k_asm) (by k_asm) (.inr ⟨_, (by k_mem : (D, _) ∈ _), rfl, _, rfl⟩) hks (by omega) ?m3 ?m4
      case m3 =>
        intro n t I oI C oC D₂ m₂ ys₂ h tk E' hn hC hx F N o3 ne
        k_steps
        all_goals exact ⟨_, _, rfl, fun _ _ e => e, _, rfl⟩
      case m4 =>
        intro ysM hhM hlM hRM
        have hXM := ints_map (fun n => tot / 100663296 % 4096 * 4096 + n) hlM hRM
        clear hRM
        k_steps
        rename_i DM hM tkM FM2 NM2 offM
        unfold Hold
        have hD140 : D ≠ 140 := fun e => by
          have e1 := (NM2 (D, W.listOf ks.toArray kd) (by k_mem)).1
          have e2 := (NM2 (140, tabObj #[]) (by k_mem)).1
          rw [e, e2] at e1
          exact absurd (congrArg Obj.cls (Option.some.inj e1)) tab_not_list
        have NK : News (ghostOf s1.heap [(142, 140)]) s1.heap.objs.size hM ((140, tabObj #[]) :: [(DM, LCg.lst ysM), (DL, W.listOf wL.toArray 0), (D, W.listOf ks.toArray kd)]) := News.pick NM2 (List.forall_mem_cons.mpr ⟨by k_mem, List.forall_mem_cons.mpr ⟨by k_mem, List.forall_mem_cons.mpr ⟨by k_mem, List.forall_mem_cons.mpr ⟨by k_mem, List.forall_mem_nil _⟩⟩⟩⟩)
        have offK : ∀ p ∈ [(DM, LCg.lst ysM), (DL, W.listOf wL.toArray 0), (D, W.listOf ks.toArray kd)], p.1 ≠ 140 := List.forall_mem_cons.mpr ⟨by k_ne, List.forall_mem_cons.mpr ⟨by k_ne, List.forall_mem_cons.mpr ⟨hD140, List.forall_mem_nil _⟩⟩⟩
        refine FnT.use (dp := 1 + claimMargin) (un := 4) (gd := some []) (outer := []) (kept_spec wd DM DL cP eP tP _ ysM wL _ _ _ hXM hIL (by rw [List.length_map]; exact hlen) (looks_nodup hG (by omega)) (modes_pos hRin (by omega)) hlk) B FM2 NK offK X T codeHd rfl rfl (by decide) (by decide) (fun g _ hn => ⟨⟨_, hn _ (.head _), rfl, _, rfl⟩, ⟨_, hn _ (.tail _ (.head _)), rfl, _, rfl⟩⟩) ?_
        intro vK hK tkK FK NK2 g hg1 hg2 kpK hPost
        obtain ⟨⟨DR, ksR, rs, rfl, hlR, hiR, hio⟩, hgr⟩ := hPost
        clear FM2 NK NM2 offM hg1 hg2 kpK
        k_steps
        unfold Hold
        refine FnP.use (dp := 1 + claimMargin) (un := 4) (gd := some []) (outer := []) (due_spec wd D DL cP eP tP _ ks wL R _ _ hks hIL hlen hRin hlk) B FK NK2 X T rfl rfl (by decide) (by decide) ⟨list_of NK2 (by k_mem), list_of NK2 (by k_mem)⟩ ?_
        intro vD hU tkD FU NU kpD hPD
        obtain ⟨DU, ksU, out, rfl, hlU, hiU, hdue⟩ := hPD
        have hlR2 := hlR.at fun o e => kpD _ o e
        obtain ⟨ps, hps⟩ := hgr
        have hgr2 : GrownAll [(142, 140)] hU := ⟨⟨ps, kpD _ _ hps⟩, trivial⟩
        have hlast : decide (keptL (fitsL cP eP (List.take (1 + tot / 412316860416).toNat [(tot / 4096 + 3649) % 4096 / 64, (tot / 4096 + 3649) % 4096 % 64]) _) rs = out) = true := decide_eq_true (plain_law hG hlen hs1 (by omega) hio hdue)
        clear FK NK2 hlR hps kpD
        k_steps)
end Mine
end
theorem PySem.Challenge.cw_oy0045_01_holds : PySem.Challenge.rw_oy0045_01.Holds :=
  Mine.law_holds
