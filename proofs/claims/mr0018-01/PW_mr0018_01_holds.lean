import PyProof.Rows.All
import Wide.All
import OpenK.AllK
import Wide.FinOn
import PyProof.CollectStr
import PyProof.Rows.SortShell
import PySem.Challenge.RW_mr0018_01
set_option Elab.async false
/-! MTop -/
open PySem PySem.W PyProof.Rows
set_option maxRecDepth 100000
set_option maxHeartbeats 8000000
namespace Mine
open_top hd for PySem.Challenge.rw_mr0018_01
end Mine

/-! MBlt -/
open PySem PySem.W PyProof.Rows
set_option maxRecDepth 100000
namespace Mine
open PySem.Builtin

/-! bytes: < and > -/
theorem slot_bytes_lt : Slot "bytes" (cmpInfo .Lt).2.1 "bytes.__lt__" :=
  .of (owner := "bytes") (n := "__lt__") (by rw [typeLookup_type, builtinLookup_eq_fast]; kernel_rfl) (by decide +kernel) (by decide +kernel) (by decide +kernel)
    (by first | exact .inl (by decide +kernel) | exact .inr (by decide +kernel)) (by rw [isSubtype_type]; kernel_rfl)
theorem entry_bytes_lt : entryFor table "bytes.__lt__" = some Builtin.«bytes.__lt__» := entryFor_of_tree (by kernel_rfl)
theorem args_bytes_lt (a b : Value) : argsOk "bytes.__lt__" ⟨[a, b], []⟩ := by
  unfold argsOk; rw [signature?_of (id := "bytes.__lt__") (n := ['_', '_', 't', 'l', '_', '_']) (o := ['s', 'e', 't', 'y', 'b']) (by kernel_rfl) FB.owner_bytes]; kernel_rfl
theorem slot_bytes_gt : Slot "bytes" (cmpInfo .Gt).2.1 "bytes.__gt__" :=
  .of (owner := "bytes") (n := "__gt__") (by rw [typeLookup_type, builtinLookup_eq_fast]; kernel_rfl) (by decide +kernel) (by decide +kernel) (by decide +kernel)
    (by first | exact .inl (by decide +kernel) | exact .inr (by decide +kernel)) (by rw [isSubtype_type]; kernel_rfl)
theorem entry_bytes_gt : entryFor table "bytes.__gt__" = some Builtin.«bytes.__gt__» := entryFor_of_tree (by kernel_rfl)
theorem args_bytes_gt (a b : Value) : argsOk "bytes.__gt__" ⟨[a, b], []⟩ := by
  unfold argsOk; rw [signature?_of (id := "bytes.__gt__") (n := ['_', '_', 't', 'g', '_', '_']) (o := ['s', 'e', 't', 'y', 'b']) (by kernel_rfl) FB.owner_bytes]; kernel_rfl

theorem gives_bytes_lt (b c : Array UInt8) (t u : Tok) : Gives («bytes.__lt__» ⟨[.bytes b t, .bytes c u], []⟩) (.val (.bool (Bytes.order b.toList c.toList == .lt))) := by
  refine .of_wp fun M A E s Q hq => ?_
  show wpAny M A (isInstance (.bytes c u) (.type "bytes") >>= fun r => _) _ E s
  refine wpAny_bind (wpAny_isInstance (typeIs_bytes s c u) F.sub_bytes_bytes ?_)
  exact wpAny_pure ⟨_, rfl, hq⟩
theorem gives_bytes_gt (b c : Array UInt8) (t u : Tok) : Gives («bytes.__gt__» ⟨[.bytes b t, .bytes c u], []⟩) (.val (.bool (Bytes.order b.toList c.toList == .gt))) := by
  refine .of_wp fun M A E s Q hq => ?_
  show wpAny M A (isInstance (.bytes c u) (.type "bytes") >>= fun r => _) _ E s
  refine wpAny_bind (wpAny_isInstance (typeIs_bytes s c u) F.sub_bytes_bytes ?_)
  exact wpAny_pure ⟨_, rfl, hq⟩
section
variable {prog : Program} {w : World} {A : Around} {E : Value → Shared → Prop} {s : Shared} {b c : Array UInt8} {t u : Tok}
theorem lt_bytes {Q : Value → Shared → Prop} (h : Q (.bool (Bytes.order b.toList c.toList == .lt)) s) : wpAny (model prog w) A (compareOp .Lt (.bytes b t) (.bytes c u)) Q E s :=
  compareOp_gives (op := .Lt) (typeIs_bytes s b t) (typeIs_bytes s c u) slot_bytes_lt entry_bytes_lt (args_bytes_lt _ _) (gives_bytes_lt b c t u) (fun e => nomatch e) h
theorem gt_bytes {Q : Value → Shared → Prop} (h : Q (.bool (Bytes.order b.toList c.toList == .gt)) s) : wpAny (model prog w) A (compareOp .Gt (.bytes b t) (.bytes c u)) Q E s :=
  compareOp_gives (op := .Gt) (typeIs_bytes s b t) (typeIs_bytes s c u) slot_bytes_gt entry_bytes_gt (args_bytes_gt _ _) (gives_bytes_gt b c t u) (fun e => nomatch e) h
end
/-! a quotient by a power -/
theorem pow_log2 {b : Int} {n : Nat} (hb0 : 0 < b) (hb : b < 1024) (hn : n ≤ 800) : (b ^ n).natAbs.log2 < 9000 := by
  have h1 : (b ^ n).natAbs = b.natAbs ^ n := Int.natAbs_pow b n
  rw [h1]
  have h2 : b.natAbs ≤ 2 ^ 10 := by omega
  have h3 : b.natAbs ^ n ≤ (2 ^ 10) ^ n := Nat.pow_le_pow_left h2 n
  have h4 : ((2 : Nat) ^ 10) ^ n = 2 ^ (10 * n) := (Nat.pow_mul 2 10 n).symm
  rw [h4] at h3
  have h5 : b.natAbs ^ n ≠ 0 := Nat.ne_of_gt (Nat.pow_pos (by omega))
  have h6 : b.natAbs ^ n < 2 ^ (10 * n + 1) := Nat.lt_of_le_of_lt h3 (Nat.pow_lt_pow_right (by omega) (by omega))
  have := (Nat.log2_lt h5).mpr h6
  omega
section
variable {prog : Program} {w : World} {A : Around} {E : Value → Shared → Prop} {s : Shared} {a b n : Int} {t u : Tok} {Q : Value → Shared → Prop}
theorem floordiv_pow (hb0 : 0 < b) (hb : b < 1024) (hn : n ≤ 800) (h : Q (.int (a.fdiv (b ^ n.toNat)) s.toks) { s with toks := s.toks + 1 }) :
    wpAny (model prog w) A (binaryOp .FloorDiv (.int a t) (.int (b ^ n.toNat) u)) Q E s :=
  floordiv_int (Int.ne_of_gt (Int.pow_pos hb0)) h (Or.inl (PyProof.noPylong_of_log2 (pow_log2 hb0 hb (by omega))))
end
/-! the exponents of a comprehension's turns -/
theorem up_lim {k N : Int} (h : k < 0 + (((N - 0).toNat : Nat) : Int)) (hN : N ≤ 800) : k ≤ 800 := by omega
theorem up_hi {k N : Int} (h : k < 0 + (((N - 0).toNat : Nat) : Int)) (hN : N ≤ 800) : k ≤ 1000000 := by omega
theorem dn_lo {k N : Int} (h : k < 0 + (((N - 0).toNat : Nat) : Int)) (hN : 0 ≤ N) : 0 ≤ N - 1 - k := by omega
theorem dn_lim {k N : Int} (h : 0 ≤ k) (hN : N ≤ 800) : N - 1 - k ≤ 800 := by omega
theorem dn_hi {k N : Int} (h : 0 ≤ k) (hN : N ≤ 800) : N - 1 - k ≤ 1000000 := by omega
end Mine

/-! MCtr -/
open PySem PySem.W PyProof.Rows PySem.Spec PySem.Calls
set_option maxRecDepth 100000
set_option maxHeartbeats 4000000
set_option linter.unusedVariables false
namespace Mine

section
variable {prog : Program} {w : World} {A₀ A : Around} {s : Shared} {base h₀ : Heap} {outer : List Env} {L : Addr} {m mg mb : Str → Option Value} {env : Env} {K : Frag} {p : Program} {loose : List Str} {mean : ExcName → Option Value}
  {R : Result → Shared → Prop} {name qual : Str} {params : Arguments} {body : List Stmt} {scope : Scope} {dV kV doc pm cdv ct oc : Value} {an od : Option Addr} {osl : Array (Option Value)} {f : Addr} {args : Args} {binds : List (Str × Value)}

/-- a def of the text is entered; the caller's whole heap is the callee's ground, its ledger starts empty -/
theorem enter_plain (B : Below A₀ base outer h₀) (F : Fr h₀ L s.heap m) (X₀ : K.In h₀) (T : Top p loose mean mg mb h₀) (hA : A.frames = some (env :: outer)) (hf : env.frame = some L) (hke : env.scope.kind = .function)
    (ho : K.lookup f = some ⟨oc, od, .func (fnOf name qual params body scope dV kV doc pm an cdv ct), osl⟩) (hcd : codeIn K cdv qual = true) (hroom : A.depth < recursionLimit)
    (hbind : BindsTo s (fnOf name qual params body scope dV kV doc pm an cdv ct) args binds) (hloc : ∀ y ∈ binds, scope.names.lookup y.1 = some .local)
    (h : ∀ L' h₁, Fr s.heap L' h₁ (fun y => binds.reverse.lookup y) → News s.heap L' h₁ [] → Below A base (env :: outer) s.heap → K.In s.heap → Top p loose mean mg mb s.heap →
      wpAny (model prog w) (A.deeper (envOf qual scope L' f cdv)) (execs body (envOf qual scope L' f cdv))
        (fun fl s' => LeaveK h₀ L m s.heap R (match fl with | .ret v => v | _ => .none) s')
        (fun e s' => wpAny (model prog w) (A.deeper (envOf qual scope L' f cdv)) (leaving (envOf qual scope L' f cdv) e) (fun _ s'' => R (.error e) s'') (fun e' s'' => R (.error e') s'') s')
        { s with heap := h₁, toks := s.toks + binds.length })
    (hco : scope.isCoroutine = false) (hgen : scope.isGenerator = false) (hk : scope.kind = .function)
    (hcell : ∀ x ∈ scope.names, x.2 ≠ .cell) : codeAny (model prog w) A (.call (.ref f) args) R s := by
  obtain ⟨FG, BG, st, lv⟩ := groundX (R := R) (news := []) B F News.nil hA hf hke
  refine codeAny_call_def (fd := fnOf name qual params body scope dV kV doc pm an cdv ct) (body := body) (binds := binds) hroom ((X₀.keeps F.keep) _ _ ho) rfl (T.nolimit.keeps F.keep) (codeRec_of (X₀.keeps F.keep) hcd) rfl hbind hcell hloc (fun h₁ hns hk₁ => ?_) hco hgen hk
  exact wpAny_mono (h s.heap.objs.size h₁ ⟨hns, hk₁, Nat.le_refl _⟩ News.nil BG (X₀.keeps F.keep) (T.keeps F.keep)) (fun fl s' hl => lv _ _ hl) fun _ _ y => y

theorem enter_cells (B : Below A₀ base outer h₀) (F : Fr h₀ L s.heap m) (X₀ : K.In h₀) (T : Top p loose mean mg mb h₀) (hA : A.frames = some (env :: outer)) (hf : env.frame = some L) (hke : env.scope.kind = .function)
    (ho : K.lookup f = some ⟨oc, od, .func (fnOf name qual params body scope dV kV doc pm an cdv ct), osl⟩) (hcd : codeIn K cdv qual = true) (hroom : A.depth < recursionLimit)
    (hbind : BindsTo s (fnOf name qual params body scope dV kV doc pm an cdv ct) args binds) (hkind : (binds.all fun y => scope.names.lookup y.1 == some .local || scope.names.lookup y.1 == some .cell) = true)
    (hnd : ((cellsFrom 0 scope.names []).map (·.1)).Nodup)
    (h : ∀ L' h₁ tk cells, Fr s.heap L' h₁ (bindL (envOfC qual scope L' f cdv).kindOf binds fun _ => none) → News s.heap L' h₁ cells →
      CellsAre (bindC (envOfC qual scope L' f cdv).kindOf binds fun _ => none) (cellsFrom (L' + 1) scope.names []) cells → Below A base (env :: outer) s.heap → K.In s.heap → Top p loose mean mg mb s.heap →
      wpAny (model prog w) (A.deeper (envOfC qual scope L' f cdv)) (execs body (envOfC qual scope L' f cdv))
        (fun fl s' => LeaveK h₀ L m s.heap R (match fl with | .ret v => v | _ => .none) s')
        (fun e s' => wpAny (model prog w) (A.deeper (envOfC qual scope L' f cdv)) (leaving (envOfC qual scope L' f cdv) e) (fun _ s'' => R (.error e) s'') (fun e' s'' => R (.error e') s'') s')
        { s with heap := h₁, toks := tk })
    (hco : scope.isCoroutine = false) (hgen : scope.isGenerator = false) (hk : scope.kind = .function) : codeAny (model prog w) A (.call (.ref f) args) R s := by
  obtain ⟨FG, BG, st, lv⟩ := groundX (R := R) (news := []) B F News.nil hA hf hke
  refine codeAny_call_function hroom ((X₀.keeps F.keep) _ _ ho) rfl hco hgen rfl (codeRec_of (X₀.keeps F.keep) hcd) (hbind _ _ _ _ ?_)
  refine wpAny_newFunctionEnv_cells hk (kindsX hkind _) fun env' he s' x => ?_
  subst he
  refine ⟨(T.nolimit.keeps F.keep).keeps x.toInCall.keep, codeAny_func ?_⟩
  obtain ⟨h₁, tk, rfl, _⟩ := x.done
  obtain ⟨cells, NC, Y⟩ := Cl.news (h₀ := s.heap) (Nat.le_refl _) fun n c hm => ⟨x.cell n c (lookup_of_mem_nodup (cellsFrom_names scope.names 0 (s.heap.objs.size + 1) [] [] rfl ▸ hnd) hm), x.above n c hm⟩
  exact wpAny_mono (h s.heap.objs.size h₁ tk cells ⟨x.toInCall.ns, x.toInCall.keep, Nat.le_refl _⟩ NC Y BG (X₀.keeps F.keep) (T.keeps F.keep)) (fun fl s' hl => lv _ _ hl) fun _ _ y => y
/-- as enter_cells, one object D of the caller's ledger taken along as the callee's own -/
theorem enter_cells1 {D : Addr} {oD : Obj} (N : News h₀ L s.heap [(D, oD)]) (B : Below A₀ base outer h₀) (F : Fr h₀ L s.heap m) (X₀ : K.In h₀) (T : Top p loose mean mg mb h₀) (hA : A.frames = some (env :: outer)) (hf : env.frame = some L) (hke : env.scope.kind = .function)
    (ho : K.lookup f = some ⟨oc, od, .func (fnOf name qual params body scope dV kV doc pm an cdv ct), osl⟩) (hcd : codeIn K cdv qual = true) (hroom : A.depth < recursionLimit)
    (hbind : BindsTo s (fnOf name qual params body scope dV kV doc pm an cdv ct) args binds) (hkind : (binds.all fun y => scope.names.lookup y.1 == some .local || scope.names.lookup y.1 == some .cell) = true)
    (hnd : ((cellsFrom 0 scope.names []).map (·.1)).Nodup)
    (h : ∀ g L' h₁ tk cells, (∀ b o, b ≠ D → s.heap.get? b = some o → g.get? b = some o) → Fr h₀ L g m → Fr g L' h₁ (bindL (envOfC qual scope L' f cdv).kindOf binds fun _ => none) → News g L' h₁ (cells ++ [(D, oD)]) →
      CellsAre (bindC (envOfC qual scope L' f cdv).kindOf binds fun _ => none) (cellsFrom (L' + 1) scope.names []) cells → Below A base (env :: outer) g → K.In g → Top p loose mean mg mb g → (∀ p ∈ [(D, oD)], p.1 < L') →
      wpAny (model prog w) (A.deeper (envOfC qual scope L' f cdv)) (execs body (envOfC qual scope L' f cdv))
        (fun fl s' => LeaveK h₀ L m g R (match fl with | .ret v => v | _ => .none) s')
        (fun e s' => wpAny (model prog w) (A.deeper (envOfC qual scope L' f cdv)) (leaving (envOfC qual scope L' f cdv) e) (fun _ s'' => R (.error e) s'') (fun e' s'' => R (.error e') s'') s')
        { s with heap := h₁, toks := tk })
    (hco : scope.isCoroutine = false) (hgen : scope.isGenerator = false) (hk : scope.kind = .function) : codeAny (model prog w) A (.call (.ref f) args) R s := by
  obtain ⟨FG, BG, st, lv⟩ := groundX (R := R) (news := [(D, oD)]) B F N hA hf hke
  refine codeAny_call_function hroom ((X₀.keeps F.keep) _ _ ho) rfl hco hgen rfl (codeRec_of (X₀.keeps F.keep) hcd) (hbind _ _ _ _ ?_)
  refine wpAny_newFunctionEnv_cells hk (kindsX hkind _) fun env' he s' x => ?_
  subst he
  refine ⟨(T.nolimit.keeps F.keep).keeps x.toInCall.keep, codeAny_func ?_⟩
  obtain ⟨h₁, tk, rfl, _⟩ := x.done
  have hk₁ := x.toInCall.keep
  obtain ⟨cells, NC, Y⟩ := Cl.news (h₀ := s.heap) (Nat.le_refl _) fun n c hm => ⟨x.cell n c (lookup_of_mem_nodup (cellsFrom_names scope.names 0 (s.heap.objs.size + 1) [] [] rfl ▸ hnd) hm), x.above n c hm⟩
  refine wpAny_mono (h _ s.heap.objs.size h₁ tk cells (fun b o hne e => hideAll_get _ e (by simpa using hne)) FG ⟨x.toInCall.ns, fun b o e => hk₁ b o (of_hideAll _ e), Nat.le_of_eq (hideAll_size _ _)⟩ (fun q hq => ?_) Y BG (X₀.keeps st) (T.keeps st) (fun q hq => Heap.lt_size (N q hq).1)) (fun fl s' hl => lv _ _ hl) fun _ _ y => y
  rcases List.mem_append.mp hq with hq | hq
  · refine ⟨(NC q hq).1, (NC q hq).2.1, ?_⟩
    cases e : (hideAll s.heap ([(D, oD)].map (·.1))).get? q.1 with
    | none => rfl
    | some o => have := of_hideAll _ e; rw [(NC q hq).2.2] at this; cases this
  · exact ⟨hk₁ _ _ (N q hq).1, Nat.ne_of_lt (Heap.lt_size (N q hq).1), hideAll_none _ (List.mem_map_of_mem hq)⟩
end

theorem stays_of1 {g h h' : Heap} {L' D : Addr} {oD : Obj} {m' : Str → Option Value} (hg : ∀ b o, b ≠ D → h.get? b = some o → g.get? b = some o) (hD : h.get? D = some oD) (F : Fr g L' h' m') (hD' : h'.get? D = some oD) : h.StaysIn h' := fun b o e => by
  by_cases q : b = D
  · subst q; rw [hD] at e; cases e; exact hD'
  · exact F.keep b o (hg b o q e)

/-- a call's claim: from any caller's frame; Pre is asked of the heap at the call, Post told of the heap behind it -/
abbrev MC (prog : Program) (w : World) (K : Frag) (p : Program) (loose : List Str) (mean : ExcName → Option Value) (mg mb : Str → Option Value) (f : Addr) (dk uk : Nat) (vs : List Value)
    (Pre : Heap → Prop) (Post : Heap → Heap → Value → Prop) : Prop :=
  ∀ (dp un : Nat) (gd : Option (List Code)) (cn : Str) (cs : Scope) (a : Addr) (ccd : Value) (cl : List (Str × Addr)) (outer : List Env) (A₀ : Around) (base h₀ : Heap) (L : Addr) (m : Str → Option Value) (s : Shared) (Q E : Value → Shared → Prop),
    Below A₀ base outer h₀ → Fr h₀ L s.heap m → K.In h₀ → Top p loose mean mg mb h₀ → cs.kind = .function →
    dp + dk < recursionLimit → un + uk < cLine → Pre s.heap → (∀ (v : Value) (h' : Heap) (tk' : Nat), s.heap.StaysIn h' → Post s.heap h' v → Q v { s with heap := h', toks := tk' }) →
      wpAny (model prog w) (ktrTop dp un gd cn cs L a ccd cl outer) (call (.ref f) vs) Q E s

/-- as MC, with one object of the caller's ledger named -/
abbrev MC1 (prog : Program) (w : World) (K : Frag) (p : Program) (loose : List Str) (mean : ExcName → Option Value) (mg mb : Str → Option Value) (f : Addr) (dk uk : Nat) (vs : List Value)
    (D : Addr) (oD : Obj) (Post : Heap → Heap → Value → Prop) : Prop :=
  ∀ (dp un : Nat) (gd : Option (List Code)) (cn : Str) (cs : Scope) (a : Addr) (ccd : Value) (cl : List (Str × Addr)) (outer : List Env) (A₀ : Around) (base h₀ : Heap) (L : Addr) (m : Str → Option Value) (s : Shared) (Q E : Value → Shared → Prop),
    Below A₀ base outer h₀ → Fr h₀ L s.heap m → K.In h₀ → Top p loose mean mg mb h₀ → cs.kind = .function →
    dp + dk < recursionLimit → un + uk < cLine → News h₀ L s.heap [(D, oD)] → (∀ (v : Value) (h' : Heap) (tk' : Nat), s.heap.StaysIn h' → Post s.heap h' v → Q v { s with heap := h', toks := tk' }) →
      wpAny (model prog w) (ktrTop dp un gd cn cs L a ccd cl outer) (call (.ref f) vs) Q E s

abbrev NoPre : Heap → Prop := fun _ => True
/-- a plain value comes back -/
abbrev PostV (R : Tok → Value) : Heap → Heap → Value → Prop := fun _ _ v => ∃ t, v = R t
/-- a new list of ints comes back -/
abbrev PostL (ns : List Int) : Heap → Heap → Value → Prop := fun h h' v => ∃ D ys, v = .ref D ∧ h.get? D = none ∧ h'.get? D = some (LCg.lst ys) ∧ IntsAre ys ns

noncomputable def cmpB (a b : Array UInt8) : Int := (if Builtin.Bytes.order a.toList b.toList == .gt then 1 else 0) - (if Builtin.Bytes.order a.toList b.toList == .lt then 1 else 0)
noncomputable def figs (n b : Int) (c : Nat) : List Int := (List.range c).map fun k => n / b ^ (c - 1 - k) % b
local macro_rules | `(tactic| walk_at $s:str) => `(tactic| k_extra $s)
theorem words_MCtr : True := by
  k_with_none
  k_with "my enterP" => k_dflt (refine' enter_plain ?k1 ?k2 ?k3 ?k5 ?kA ?kF ?kK ?k6 ?k7 ?k8 ?k9 ?kB ?_ ?c2 ?c3 ?c4 ?c5; (case kA => exact rfl); (case kF => exact rfl); (case kK => first | exact rfl | assumption); (case k1 => k_asm); (case k2 => k_asm); (case k3 => k_asm); (case k5 => k_asm); (case k6 => k_is); (case k7 => k_is); (case k8 => ktr_room); (case k9 => first | exact BindsTo.of_eq rfl | exact binds_K (by k_in) rfl (by k_is) rfl rfl rfl | fail "enter: no rule for these arguments"); (case c5 => decide); (case kB => exact locs rfl); (case c2 => exact rfl); (case c3 => exact rfl); (case c4 => exact rfl); k_whole; intro L' h' F' N' B' X' T'; (try dsimp only); (try k_lift B'); (try k_fold))
  k_with "my enterC" => k_dflt (refine' enter_cells ?k1 ?k2 ?k3 ?k5 ?kA ?kF ?kK ?k6 ?k7 ?k8 ?k9 ?kB ?kD ?_ ?c2 ?c3 ?c4; (case kA => exact rfl); (case kF => exact rfl); (case kK => first | exact rfl | assumption); (case k1 => k_asm); (case k2 => k_asm); (case k3 => k_asm); (case k5 => k_asm); (case k6 => k_is); (case k7 => k_is); (case k8 => ktr_room); (case k9 => first | exact BindsTo.of_eq rfl | exact binds_K (by k_in) rfl (by k_is) rfl rfl rfl | fail "enter: no rule for these arguments"); (case kB => exact rfl); (case kD => decide +kernel); (case c2 => exact rfl); (case c3 => exact rfl); (case c4 => exact rfl); k_whole; intro L' h' tk' cells' F' N' Y' B' X' T'; k_cells Y'; (try simp only [List.cons_append, List.nil_append] at N'); (try dsimp only); (try k_lift B'); (try k_fold))
  k_with "my enter1" => k_dflt (refine' enter_cells1 ?k0 ?k1 ?k2 ?k3 ?k5 ?kA ?kF ?kK ?k6 ?k7 ?k8 ?k9 ?kB ?kD ?_ ?c2 ?c3 ?c4; (case kA => exact rfl); (case kF => exact rfl); (case kK => first | exact rfl | assumption); (case k0 => k_asm); (case k1 => k_asm); (case k2 => k_asm); (case k3 => k_asm); (case k5 => k_asm); (case k6 => k_is); (case k7 => k_is); (case k8 => ktr_room); (case k9 => first | exact BindsTo.of_eq rfl | exact binds_K (by k_in) rfl (by k_is) rfl rfl rfl | fail "enter: no rule for these arguments"); (case kB => exact rfl); (case kD => decide +kernel); (case c2 => exact rfl); (case c3 => exact rfl); (case c4 => exact rfl); k_whole; intro g' L' h' tk' cells' hg' FG' F' N' Y' B' X' T' l1; (try k_lt l1); k_cells Y'; (try simp only [List.cons_append, List.nil_append] at N'); (try dsimp only); (try k_lift B'); (try k_fold))
  k_with "my in1" => ((refine wpAny_call ?_); (walk_at "my enter1"); k_steps)
  k_with "my enter" => first | (walk_at "my enterP") | (walk_at "my enterC") | fail "enter"
  k_with "my open" => (w_top off; k_fill; dsimp only [MC, MC1]; intros)
  k_with "my in" => ((refine wpAny_call ?_); (walk_at "my enter"); k_steps)
  k_with "compareOp Gt bytes bytes" => (refine gt_bytes ?_)
  k_with "compareOp Lt bytes bytes" => (refine lt_bytes ?_)
  k_with "binaryOp FloorDiv int int" => (k_here; (with_reducible show wpAny _ _ (binaryOp Operator.FloorDiv (Value.int _ _) (Value.int (_ ^ Int.toNat _) _)) _ _ _); (with_reducible refine floordiv_pow ?fpa ?fpb ?fpc ?_); (case fpa => decide); (case fpb => decide); (case fpc => first | exact up_lim (by assumption) (by decide) | exact dn_lim (by assumption) (by decide) | l_bnd))
  k_with "binaryOp Pow int int" => (k_here; (with_reducible refine pow_int_small ?z9a ?z9b ?z9c ?_); (case z9a => first | assumption | exact dn_lo (by assumption) (by decide)); (case z9b => first | exact up_hi (by assumption) (by decide) | exact dn_hi (by assumption) (by decide)); (case z9c => decide))
  exact trivial
theorem strcoll_c {prog w p loose mean mg mb} (a b : Array UInt8) (ta tb : Tok) :
   (fun (_ : OpenLaw) => MC prog w (hd.heap_39 w.params) p loose mean mg mb 28 20 100 [.bytes a ta, .bytes b tb] NoPre (PostV fun t => .int (cmpB a b) t)) Challenge.rw_mr0018_01 := by
  walk_at "my open"
  rename_i hret
  walk_at "my in"
  exact hret _ _ _ (Fr.keep (by assumption)) ⟨_, rfl⟩

theorem figs_eq (n b : Int) (c : Nat) (hn : 0 ≤ n) (hb : 0 < b) : (rangeKs 0 ((c : Int) - 0).toNat).map (fun k' => (n.fdiv (b ^ ((c : Int) - 1 - k').toNat)).fmod b) = figs n b c := by
  unfold figs rangeKs
  rw [List.map_map]
  have e : ((c : Int) - 0).toNat = c := by omega
  rw [e]
  refine List.map_congr_left fun k hk => ?_
  have hk' := List.mem_range.mp hk
  show (n.fdiv (b ^ ((c : Int) - 1 - (0 + (k : Int))).toNat)).fmod b = _
  have e2 : ((c : Int) - 1 - (0 + (k : Int))).toNat = c - 1 - k := by omega
  rw [e2, Int.fdiv_eq_ediv_of_nonneg _ (Int.le_of_lt (Int.pow_pos hb)), Int.fmod_eq_emod_of_nonneg _ (Int.le_of_lt hb)]

theorem postL_of {g h' : Heap} {L D : Addr} {ys : List Value} {news : List (Addr × Obj)} {ns : List Int} (N : News g L h' ((D, LCg.lst ys) :: news)) (hI : IntsAre ys ns) : PostL ns g h' (.ref D) :=
  ⟨D, ys, rfl, (N _ (.head _)).2.2, (N _ (.head _)).1, hI⟩

theorem figures_64_4 {prog w p loose mean mg mb} (n : Int) (tn tb tc : Tok) (h0 : 0 ≤ n) :
   (fun (_ : OpenLaw) => MC prog w (hd.heap_39 w.params) p loose mean mg mb 84 20 100 [.int n tn, .int 64 tb, .int 4 tc] NoPre (PostL (figs n 64 4))) Challenge.rw_mr0018_01 := by
  walk_at "my open"
  rename_i hret
  walk_at "my in"
  refine hret _ _ _ (Fr.keep (by assumption)) (postL_of (by assumption) (by rw [← figs_eq n 64 4 h0 (by decide)]; assumption))

theorem figures_64_8 {prog w p loose mean mg mb} (n : Int) (tn tb tc : Tok) (h0 : 0 ≤ n) :
   (fun (_ : OpenLaw) => MC prog w (hd.heap_39 w.params) p loose mean mg mb 84 20 100 [.int n tn, .int 64 tb, .int 8 tc] NoPre (PostL (figs n 64 8))) Challenge.rw_mr0018_01 := by
  walk_at "my open"
  rename_i hret
  walk_at "my in"
  refine hret _ _ _ (Fr.keep (by assumption)) (postL_of (by assumption) (by rw [← figs_eq n 64 8 h0 (by decide)]; assumption))

theorem figures_256_3 {prog w p loose mean mg mb} (n : Int) (tn tb tc : Tok) (h0 : 0 ≤ n) :
   (fun (_ : OpenLaw) => MC prog w (hd.heap_39 w.params) p loose mean mg mb 84 20 100 [.int n tn, .int 256 tb, .int 3 tc] NoPre (PostL (figs n 256 3))) Challenge.rw_mr0018_01 := by
  walk_at "my open"
  rename_i hret
  walk_at "my in"
  refine hret _ _ _ (Fr.keep (by assumption)) (postL_of (by assumption) (by rw [← figs_eq n 256 3 h0 (by decide)]; assumption))

theorem figures_256_6 {prog w p loose mean mg mb} (n : Int) (tn tb tc : Tok) (h0 : 0 ≤ n) :
   (fun (_ : OpenLaw) => MC prog w (hd.heap_39 w.params) p loose mean mg mb 84 20 100 [.int n tn, .int 256 tb, .int 6 tc] NoPre (PostL (figs n 256 6))) Challenge.rw_mr0018_01 := by
  walk_at "my open"
  rename_i hret
  walk_at "my in"
  refine hret _ _ _ (Fr.keep (by assumption)) (postL_of (by assumption) (by rw [← figs_eq n 256 6 h0 (by decide)]; assumption))

end Mine

/-! MOct -/
open PySem PySem.W PyProof.Rows PySem.Spec PySem.Calls
set_option maxRecDepth 100000
set_option maxHeartbeats 4000000
set_option linter.unusedVariables false
namespace Mine
noncomputable def val (fs : List Int) : Int := fs.foldl (fun v f => v * 64 + f) 0
noncomputable def octs (v : Int) (n : Nat) : Array UInt8 := byteArr (((List.range n).map fun k => v / 256 ^ k % 256).reverse)
theorem in_rev {ns : List Int} (h : KBa.In ns) : KBa.In ns.reverse := fun n hn => h n (List.mem_reverse.mp hn)
theorem in_fmod {α : Type} (f : α → Int) (l : List α) : KBa.In (l.map fun k => (f k).fmod 256) := fun n hn => by
  obtain ⟨k, _, rfl⟩ := List.mem_map.mp hn
  exact ⟨fmod_lo _ (by decide), fmod_hi _ (by decide)⟩
theorem octs_eq (v : Int) (n : Nat) : byteArr (List.map (fun k' => (v.fdiv (256 ^ k'.toNat)).fmod 256) (rangeKs 0 ((n : Int) - 0).toNat)).reverse = octs v n := by
  unfold octs rangeKs
  rw [List.map_map]
  have e : ((n : Int) - 0).toNat = n := by omega
  rw [e]
  congr 2
  refine List.map_congr_left fun k hk => ?_
  show (v.fdiv (256 ^ (0 + (k : Int)).toNat)).fmod 256 = _
  have e2 : (0 + (k : Int)).toNat = k := by omega
  rw [e2, Int.fdiv_eq_ediv_of_nonneg _ (Int.le_of_lt (Int.pow_pos (by decide))), Int.fmod_eq_emod_of_nonneg _ (by decide)]
local macro_rules | `(tactic| walk_at $s:str) => `(tactic| k_extra $s)
theorem words_MOct : True := by
  k_with_none
  k_with "my enterP" => k_dflt (refine' enter_plain ?k1 ?k2 ?k3 ?k5 ?kA ?kF ?kK ?k6 ?k7 ?k8 ?k9 ?kB ?_ ?c2 ?c3 ?c4 ?c5; (case kA => exact rfl); (case kF => exact rfl); (case kK => first | exact rfl | assumption); (case k1 => k_asm); (case k2 => k_asm); (case k3 => k_asm); (case k5 => k_asm); (case k6 => k_is); (case k7 => k_is); (case k8 => ktr_room); (case k9 => first | exact BindsTo.of_eq rfl | exact binds_K (by k_in) rfl (by k_is) rfl rfl rfl | fail "enter: no rule for these arguments"); (case c5 => decide); (case kB => exact locs rfl); (case c2 => exact rfl); (case c3 => exact rfl); (case c4 => exact rfl); k_whole; intro L' h' F' N' B' X' T'; (try dsimp only); (try k_lift B'); (try k_fold))
  k_with "my enterC" => k_dflt (refine' enter_cells ?k1 ?k2 ?k3 ?k5 ?kA ?kF ?kK ?k6 ?k7 ?k8 ?k9 ?kB ?kD ?_ ?c2 ?c3 ?c4; (case kA => exact rfl); (case kF => exact rfl); (case kK => first | exact rfl | assumption); (case k1 => k_asm); (case k2 => k_asm); (case k3 => k_asm); (case k5 => k_asm); (case k6 => k_is); (case k7 => k_is); (case k8 => ktr_room); (case k9 => first | exact BindsTo.of_eq rfl | exact binds_K (by k_in) rfl (by k_is) rfl rfl rfl | fail "enter: no rule for these arguments"); (case kB => exact rfl); (case kD => decide +kernel); (case c2 => exact rfl); (case c3 => exact rfl); (case c4 => exact rfl); k_whole; intro L' h' tk' cells' F' N' Y' B' X' T'; k_cells Y'; (try simp only [List.cons_append, List.nil_append] at N'); (try dsimp only); (try k_lift B'); (try k_fold))
  k_with "my enter1" => k_dflt (refine' enter_cells1 ?k0 ?k1 ?k2 ?k3 ?k5 ?kA ?kF ?kK ?k6 ?k7 ?k8 ?k9 ?kB ?kD ?_ ?c2 ?c3 ?c4; (case kA => exact rfl); (case kF => exact rfl); (case kK => first | exact rfl | assumption); (case k0 => k_asm); (case k1 => k_asm); (case k2 => k_asm); (case k3 => k_asm); (case k5 => k_asm); (case k6 => k_is); (case k7 => k_is); (case k8 => ktr_room); (case k9 => first | exact BindsTo.of_eq rfl | exact binds_K (by k_in) rfl (by k_is) rfl rfl rfl | fail "enter: no rule for these arguments"); (case kB => exact rfl); (case kD => decide +kernel); (case c2 => exact rfl); (case c3 => exact rfl); (case c4 => exact rfl); k_whole; intro g' L' h' tk' cells' hg' FG' F' N' Y' B' X' T' l1; (try k_lt l1); k_cells Y'; (try simp only [List.cons_append, List.nil_append] at N'); (try dsimp only); (try k_lift B'); (try k_fold))
  k_with "my in1" => ((refine wpAny_call ?_); (walk_at "my enter1"); k_steps)
  k_with "my enter" => first | (walk_at "my enterP") | (walk_at "my enterC") | fail "enter"
  k_with "my open" => (w_top off; k_fill; dsimp only [MC, MC1]; intros)
  k_with "my in" => ((refine wpAny_call ?_); (walk_at "my enter"); k_steps)
  k_with "compareOp Gt bytes bytes" => (refine gt_bytes ?_)
  k_with "compareOp Lt bytes bytes" => (refine lt_bytes ?_)
  k_with "binaryOp FloorDiv int int" => (k_here; (with_reducible show wpAny _ _ (binaryOp Operator.FloorDiv (Value.int _ _) (Value.int (_ ^ Int.toNat _) _)) _ _ _); (with_reducible refine floordiv_pow ?fpa ?fpb ?fpc ?_); (case fpa => decide); (case fpb => decide); (case fpc => first | exact up_lim (by assumption) (by decide) | exact dn_lim (by assumption) (by decide) | l_bnd))
  k_with "call type:bytes" => (k_here; (with_reducible show wpAny _ _ (call (Value.type "bytes") [Value.ref _]) _ _ _); k_dflt (refine' KBa.make_K ?kbaF ?kbaN ?kbah ?kbal ?kbai ?kbar ?kban ?_; (case kbaF => k_asm); (case kbaN => k_asm); (case kbah => rfl); (case kbal => kba_isList); (case kbai => kba_listInts); (case kbar => exact in_rev (in_fmod _ _)); (case kban => first | kba_size | (simp only [List.length_reverse, List.length_map, rangeKs_length]; omega) | (simp only [List.length_reverse, List.length_map, rangeKs_length]; decide))); intro _ _ _ F' N' kbaIn)
  k_with "binaryOp Pow int int" => (k_here; (with_reducible refine pow_int_small ?z9a ?z9b ?z9c ?_); (case z9a => first | assumption | exact dn_lo (by assumption) (by decide)); (case z9b => first | exact up_hi (by assumption) (by decide) | exact dn_hi (by assumption) (by decide)); (case z9c => decide))
  exact trivial
theorem octets_4 {prog w p loose mean mg mb} (D : Addr) (a0 a1 a2 a3 : Int) (t0 t1 t2 t3 : Tok) :
   (fun (_ : OpenLaw) => MC1 prog w (hd.heap_39 w.params) p loose mean mg mb 79 20 100 [.ref D] D (LCg.lst [.int a0 t0, .int a1 t1, .int a2 t2, .int a3 t3]) (PostV fun t => .bytes (octs (val [a0, a1, a2, a3]) 3) t)) Challenge.rw_mr0018_01 := by
  walk_at "my open"
  rename_i hpre hret
  have hD := (hpre _ (.head _)).1
  walk_at "my in1"
  refine hret _ _ _ (stays_of1 (by assumption) hD (by assumption) (News.get (by assumption) (by k_mem))) ⟨_, congrArg (fun z => Value.bytes z _) (octs_eq _ 3)⟩

theorem octets_8 {prog w p loose mean mg mb} (D : Addr) (a0 a1 a2 a3 a4 a5 a6 a7 : Int) (t0 t1 t2 t3 t4 t5 t6 t7 : Tok) :
   (fun (_ : OpenLaw) => MC1 prog w (hd.heap_39 w.params) p loose mean mg mb 79 20 100 [.ref D] D (LCg.lst [.int a0 t0, .int a1 t1, .int a2 t2, .int a3 t3, .int a4 t4, .int a5 t5, .int a6 t6, .int a7 t7]) (PostV fun t => .bytes (octs (val [a0, a1, a2, a3, a4, a5, a6, a7]) 6) t)) Challenge.rw_mr0018_01 := by
  walk_at "my open"
  rename_i hpre hret
  have hD := (hpre _ (.head _)).1
  walk_at "my in1"
  refine hret _ _ _ (stays_of1 (by assumption) hD (by assumption) (News.get (by assumption) (by k_mem))) ⟨_, congrArg (fun z => Value.bytes z _) (octs_eq _ 6)⟩

end Mine

/-! MBlt2 -/
open PySem PySem.W PyProof.Rows PySem.Spec PySem.Calls
set_option maxRecDepth 100000
set_option maxHeartbeats 4000000
set_option linter.unusedVariables false
namespace Mine
open PySem.Builtin

theorem nat_and_low (a b : Nat) (h : b < 256) : (a * 256) &&& b = 0 := by
  apply Nat.eq_of_testBit_eq
  intro i
  rw [Nat.testBit_and, Nat.zero_testBit]
  have e : a * 256 = 2 ^ 8 * a := by omega
  rw [e, Nat.testBit_two_pow_mul]
  by_cases hi : 8 ≤ i
  · have : b.testBit i = false := Nat.testBit_lt_two_pow (Nat.lt_of_lt_of_le h (by
      have : (2 : Nat) ^ 8 ≤ 2 ^ i := Nat.pow_le_pow_right (by decide) hi
      simpa using this))
    simp [this]
  · simp [hi]
theorem or_low {x b : Int} (hx : 0 ≤ x) (h0 : 0 ≤ b) (h1 : b < 256) : Builtin.bitOr (x * 2 ^ Int.toNat 8) b = x * 256 + b := by
  have e : x * 2 ^ Int.toNat 8 = x * 256 := rfl
  rw [e, bitOr_and, bitAnd_pp (by omega) h0]
  have e2 : (x * 256).toNat = x.toNat * 256 := by omega
  rw [e2, nat_and_low _ _ (by omega)]
  simp
section
variable {prog : Program} {w : World} {A : Around} {E : Value → Shared → Prop} {s : Shared} {a b n x : Int} {t u : Tok} {Q : Value → Shared → Prop}
theorem or_lowR (hx : 0 ≤ x) (h0 : 0 ≤ b) (h1 : b < 256) (h : Q (.int (x * 256 + b) s.toks) { s with toks := s.toks + 1 }) : wpAny (model prog w) A (binaryOp .BitOr (.int (x * 2 ^ Int.toNat 8) t) (.int b u)) Q E s :=
  or_int (by rw [or_low hx h0 h1]; exact h)
theorem and_16R (h : Q (.int (a % 65536) s.toks) { s with toks := s.toks + 1 }) : wpAny (model prog w) A (binaryOp .BitAnd (.int a t) (.int 65535 u)) Q E s :=
  and_int (by rw [bitAnd_m16]; exact h)
theorem and_6R (h : Q (.int (a % 64) s.toks) { s with toks := s.toks + 1 }) : wpAny (model prog w) A (binaryOp .BitAnd (.int a t) (.int 63 u)) Q E s :=
  and_int (by rw [bitAnd_m6]; exact h)
theorem rshift_R {k : Nat} (hn : n = (k : Int)) (h : Q (.int (a / 2 ^ k) s.toks) { s with toks := s.toks + 1 }) : wpAny (model prog w) A (binaryOp .RShift (.int a t) (.int n u)) Q E s := by
  subst hn
  refine rshift_int (by omega) ?_
  rw [Int.toNat_natCast, Int.fdiv_eq_ediv_of_nonneg _ (Int.le_of_lt (Int.pow_pos (by decide)))]
  exact h
end

/-- the sixty-four signs -/
noncomputable def B64l : List UInt8 := [65, 66, 67, 68, 69, 70, 71, 72, 73, 74, 75, 76, 77, 78, 79, 80, 81, 82, 83, 84, 85, 86, 87, 88, 89, 90, 97, 98, 99, 100, 101, 102, 103, 104, 105, 106, 107, 108, 109, 110, 111, 112, 113, 114, 115, 116, 117, 118, 119, 120, 121, 122, 48, 49, 50, 51, 52, 53, 54, 55, 56, 57, 43, 47]
noncomputable def b64c (i : Int) : Int := ((B64l.getD i.toNat 0).toNat : Int)
theorem b64c_in (i : Int) : 0 ≤ b64c i ∧ b64c i < 256 := by
  unfold b64c
  have := (B64l.getD i.toNat 0).toNat_lt
  omega
section
variable {prog : Program} {w : World} {A : Around} {E : Value → Shared → Prop} {s : Shared} {value slice : PySem.Expr} {t ui : Tok} {i : Int} {Q : Value → Shared → Prop}
theorem item_b64 (h0 : 0 ≤ i) (h1 : i < 64) (h : Q (.int (b64c i) s.toks) { s with toks := s.toks + 1 })
    (hs : subscripted slice false (.bytes B64l.toArray t) (.int i ui) = operate [.bytes B64l.toArray t, .int i ui] (getItem (.bytes B64l.toArray t) (.int i ui)) := by with_unfolding_all rfl)
    (ht : ∀ r, letTemporaryGo value (.bytes B64l.toArray t) r = pure () := by intro _; with_unfolding_all rfl) :
    wpAny (model prog w) A (subscriptTail value slice (.bytes B64l.toArray t) (.int i ui)) Q E s :=
  KBy.item_N (by decide) h0 (by exact h1) h hs ht
end

/-! bytes: methods -/
theorem slot_bytes_translate : Slot "bytes" "translate" "bytes.translate" :=
  .of (owner := "bytes") (n := "translate") (by rw [typeLookup_type, builtinLookup_eq_fast]; kernel_rfl) (by decide +kernel) (by decide +kernel) (by decide +kernel)
    (by first | exact .inl (by decide +kernel) | exact .inr (by decide +kernel)) (by rw [isSubtype_type]; kernel_rfl)
theorem type_bytes_translate : typeOf (.builtin "bytes.translate") = pure (.type "method_descriptor") := by show builtinType _ = _; rw [builtinType_eq_fast]; kernel_rfl
theorem entry_bytes_translate : entryFor table "bytes.translate" = some Builtin.«bytes.translate» := entryFor_of_tree (by kernel_rfl)
theorem args_bytes_translate (a b : Value) : argsOk "bytes.translate" ⟨[a, b], []⟩ := by
  unfold argsOk; rw [signature?_of (id := "bytes.translate") (n := "translate".toList.reverse) (o := ['s', 'e', 't', 'y', 'b']) (by kernel_rfl) FB.owner_bytes]; kernel_rfl
theorem slot_bytes_hex : Slot "bytes" "hex" "bytes.hex" :=
  .of (owner := "bytes") (n := "hex") (by rw [typeLookup_type, builtinLookup_eq_fast]; kernel_rfl) (by decide +kernel) (by decide +kernel) (by decide +kernel)
    (by first | exact .inl (by decide +kernel) | exact .inr (by decide +kernel)) (by rw [isSubtype_type]; kernel_rfl)
theorem type_bytes_hex : typeOf (.builtin "bytes.hex") = pure (.type "method_descriptor") := by show builtinType _ = _; rw [builtinType_eq_fast]; kernel_rfl
theorem entry_bytes_hex : entryFor table "bytes.hex" = some Builtin.«bytes.hex» := entryFor_of_tree (by kernel_rfl)
theorem args_bytes_hex (a : Value) : argsOk "bytes.hex" ⟨[a], []⟩ := by
  unfold argsOk; rw [signature?_of (id := "bytes.hex") (n := "hex".toList.reverse) (o := ['s', 'e', 't', 'y', 'b']) (by kernel_rfl) FB.owner_bytes]; kernel_rfl
theorem slot_bytes_upper : Slot "bytes" "upper" "bytes.upper" :=
  .of (owner := "bytes") (n := "upper") (by rw [typeLookup_type, builtinLookup_eq_fast]; kernel_rfl) (by decide +kernel) (by decide +kernel) (by decide +kernel)
    (by first | exact .inl (by decide +kernel) | exact .inr (by decide +kernel)) (by rw [isSubtype_type]; kernel_rfl)
theorem type_bytes_upper : typeOf (.builtin "bytes.upper") = pure (.type "method_descriptor") := by show builtinType _ = _; rw [builtinType_eq_fast]; kernel_rfl
theorem entry_bytes_upper : entryFor table "bytes.upper" = some Builtin.«bytes.upper» := entryFor_of_tree (by kernel_rfl)
theorem args_bytes_upper (a : Value) : argsOk "bytes.upper" ⟨[a], []⟩ := by
  unfold argsOk; rw [signature?_of (id := "bytes.upper") (n := "upper".toList.reverse) (o := ['s', 'e', 't', 'y', 'b']) (by kernel_rfl) FB.owner_bytes]; kernel_rfl
theorem slot_bytes_index : Slot "bytes" "index" "bytes.index" :=
  .of (owner := "bytes") (n := "index") (by rw [typeLookup_type, builtinLookup_eq_fast]; kernel_rfl) (by decide +kernel) (by decide +kernel) (by decide +kernel)
    (by first | exact .inl (by decide +kernel) | exact .inr (by decide +kernel)) (by rw [isSubtype_type]; kernel_rfl)
theorem type_bytes_index : typeOf (.builtin "bytes.index") = pure (.type "method_descriptor") := by show builtinType _ = _; rw [builtinType_eq_fast]; kernel_rfl
theorem entry_bytes_index : entryFor table "bytes.index" = some Builtin.«bytes.index» := entryFor_of_tree (by kernel_rfl)
theorem args_bytes_index (a b : Value) : argsOk "bytes.index" ⟨[a, b], []⟩ := by
  unfold argsOk; rw [signature?_of (id := "bytes.index") (n := "index".toList.reverse) (o := ['s', 'e', 't', 'y', 'b']) (by kernel_rfl) FB.owner_bytes]; kernel_rfl
section
variable {M : Model} {A : Around} {E : Value → Shared → Prop} {s : Shared} {b : Array UInt8} {t : Tok} {pl : Sem Bool} {Q : Value × List Value → Shared → Prop}
theorem method_translate (h : Q (.builtin "bytes.translate", [.bytes b t]) s) : wpAny M A (getMethod (.bytes b t) "translate" pl) Q E s := by
  with_reducible exact KBd.method_of (.bytes b t) (typeIs_bytes _ _ _) slot_bytes_translate type_bytes_translate KBd.noRef h
theorem method_hex (h : Q (.builtin "bytes.hex", [.bytes b t]) s) : wpAny M A (getMethod (.bytes b t) "hex" pl) Q E s := by
  with_reducible exact KBd.method_of (.bytes b t) (typeIs_bytes _ _ _) slot_bytes_hex type_bytes_hex KBd.noRef h
theorem method_upper (h : Q (.builtin "bytes.upper", [.bytes b t]) s) : wpAny M A (getMethod (.bytes b t) "upper" pl) Q E s := by
  with_reducible exact KBd.method_of (.bytes b t) (typeIs_bytes _ _ _) slot_bytes_upper type_bytes_upper KBd.noRef h
theorem method_index (h : Q (.builtin "bytes.index", [.bytes b t]) s) : wpAny M A (getMethod (.bytes b t) "index" pl) Q E s := by
  with_reducible exact KBd.method_of (.bytes b t) (typeIs_bytes _ _ _) slot_bytes_index type_bytes_index KBd.noRef h
end
end Mine

/-! MBlt3 -/
open PySem PySem.W PyProof.Rows PySem.Spec PySem.Calls
set_option maxRecDepth 100000
set_option maxHeartbeats 4000000
set_option linter.unusedVariables false
namespace Mine
open PySem.Builtin

theorem noFrag {h : Heap} : Frag.In [] h := fun _ _ e => nomatch e
section
variable {prog : Program} {w : World} {A : Around} {E : Value → Shared → Prop} {s : Shared}
theorem getm_maketrans {pl : Sem Bool} {Q : Value × List Value → Shared → Prop} (h : Q (.builtin "bytes.maketrans", []) { s with toks := s.toks + 1 }) :
    wpAny (model prog w) A (getMethod (.type "bytes") (PySem.Str.ofString "maketrans") pl) Q E s := by
  have X : Frag.In [] s.heap := noFrag
  have hstub : opaqueClassAbove (.type "bytes") = pure none := by unfold opaqueClassAbove; dsimp only; rw [show Manifest.isStub "bytes" = false by decide +kernel]; rfl
  have ht : typeOf (.type "bytes") = pure (.type "type") := by first | rfl | kernel_rfl
  have L0 : Looks (model prog w) s.heap (typeOf (.type "bytes")) (.type "type") := Looks.of_pure ht
  have hg : findIn [] (.type "type") "__getattribute__" = some (some (.builtin "type.__getattribute__")) := type_tga
  unfold getMethod specialOf
  refine wpAny_bind (wpAny_bind (L0.here ((looks_findIn X hg).here ?_)))
  dsimp only
  rw [if_pos canon_tga]
  refine wpAny_bind (wpAny_mono (Q := fun v => Q (v, [])) (E := E) ?_ (fun _ _ z => wpAny_pure z) fun _ _ z => z)
  have LO : Looks (model prog w) s.heap (opaqueClassAbove (.type "bytes")) none := Looks.of_pure hstub
  have e : findCls [] (.type "bytes") (.type "type") (PySem.Str.ofString "maketrans") = some (.val (.builtin "bytes.maketrans")) := by kernel_rfl
  refine cls_open X LO L0 hg (looks_hook X (r := none) (by rfl)) (by show subIn [] _ _ = _; rfl) e ?_
  exact wpAny_pure (by show wpAny _ _ (handedOut (.builtin "bytes.maketrans")) _ _ _; rw [handedOut_of (by decide +kernel)]; exact wpAny_pure h)

/-! maketrans -/
theorem plain_maketrans : plainId "bytes.maketrans" = true := by decide +kernel
theorem entry_maketrans : entryFor table "bytes.maketrans" = some Builtin.«bytes.maketrans» := entryFor_of_tree (by kernel_rfl)
theorem check_maketrans (a b : Value) : checkBuiltinCall "bytes.maketrans" ⟨[a, b], []⟩ = pure () := by kernel_rfl
/-- the table that bytes.maketrans makes -/
noncomputable def mkTable (frm to : Array UInt8) : Array UInt8 := (frm.toList.zip to.toList).foldl (fun t (f, x) => t.setIfInBounds f.toNat x) ((Array.range 256).map (·.toUInt8))
theorem mkTable_size (frm to : Array UInt8) : (mkTable frm to).size = 256 := by
  unfold mkTable
  have : ∀ (l : List (UInt8 × UInt8)) (a : Array UInt8), (l.foldl (fun t (f, x) => t.setIfInBounds f.toNat x) a).size = a.size := by
    intro l
    induction l with
    | nil => intro a; rfl
    | cons p r ih => intro a; rw [List.foldl_cons, ih]; simp
  rw [this]
  simp
theorem call_maketrans {frm to : Array UInt8} {t u : Tok} {Q : Value → Shared → Prop} (hs : frm.size = to.size) (h : Q (.bytes (mkTable frm to) s.toks) { s with toks := s.toks + 1 }) :
    wpAny (model prog w) A (call (.builtin "bytes.maketrans") [.bytes frm t, .bytes to u]) Q E s := by
  refine wpAny_call (codeAny_call_builtin plain_maketrans entry_maketrans ?_)
  rw [check_maketrans]
  refine wpAny_pure ?_
  show wpAny _ _ (Bytes.bytesLike "bytes.maketrans" (.bytes frm t) >>= fun r => _) _ _ _
  rw [KBd.like_eq]
  refine wpAny_bind (wpAny_pure ?_)
  show wpAny _ _ (Bytes.bytesLike "bytes.maketrans" (.bytes to u) >>= fun r => _) _ _ _
  rw [KBd.like_eq]
  refine wpAny_bind (wpAny_pure ?_)
  have hne : (frm.size != to.size) = false := by rw [hs]; simp
  rw [if_neg (by rw [hne]; decide)]
  refine wpAny_bind (wpAny_mkBytes ?_ (by
    have := mkTable_size frm to
    unfold mkTable at this
    rw [this]; decide))
  exact wpAny_pure h
/-! translate -/
noncomputable def translated (T b : Array UInt8) : Array UInt8 := b.map fun c => T.getD c.toNat c
theorem meets_translate {b T : Array UInt8} {t u : Tok} (hT : T.size = 256) (hb : b.size ≤ 16777216) :
    Meets («bytes.translate» ⟨[.bytes b t, .bytes T u], []⟩) (fun _ R s => ∀ t' k, R (.ok (.ret (.bytes (translated T b) t'))) { s with toks := k }) := by
  refine .of_wp fun prog w A R s hS => ?_
  unfold «bytes.translate» Bytes.translateM
  dsimp only [List.length_cons, List.length_nil]
  rw [if_neg (by decide), if_neg (by decide), if_neg (by rw [show (Value.bytes T u == Value.none) = false from rfl]; decide), KBd.like_eq]
  refine wpAny_bind (wpAny_pure ?_)
  have hne : (T.size != 256) = false := by rw [hT]; rfl
  rw [if_neg (by rw [hne]; decide)]
  refine wpAny_bind (wpAny_pure ?_)
  have hf : (b.filter (!(#[] : Array UInt8).contains ·)) = b := by simp
  refine wpAny_bind (wpAny_pure ?_)
  refine wpAny_bind (m := Bytes.payload (.bytes b t)) (wpAny_pure ?_)
  dsimp only
  rw [hf]
  by_cases hq : (b.map (fun c => T.getD c.toNat c) == b) = true
  · rw [if_pos hq]
    have e : translated T b = b := eq_of_beq hq
    rw [e] at hS
    exact wpAny_bind (wpAny_rule (wpAny_bind (wpAny_pure (wpAny_pure ⟨_, rfl, hS t s.toks⟩))))
  · rw [if_neg hq]
    exact wpAny_bind (wpAny_mkBytes (wpAny_pure ⟨_, rfl, hS _ _⟩) (by rw [sizeLine_eq]; simpa [translated] using hb))
theorem call_translate {b T : Array UInt8} {t u : Tok} {Q : Value → Shared → Prop} (hT : T.size = 256) (hb : b.size ≤ 16777216) (h : ∀ t' k, Q (.bytes (translated T b) t') { s with toks := k }) :
    wpAny (model prog w) A (call (.builtin "bytes.translate") [.bytes b t, .bytes T u]) Q E s :=
  call_meets slot_bytes_translate (typeIs_bytes _ _ _) entry_bytes_translate (args_bytes_translate _ _) (meets_translate hT hb) h
/-! upper -/
noncomputable def uppered (b : Array UInt8) : Array UInt8 := (b.toList.map Bytes.toUpper).toArray
theorem meets_upper {b : Array UInt8} {t : Tok} (hb : b.size ≤ 16777216) :
    Meets («bytes.upper» ⟨[.bytes b t], []⟩) (fun _ R s => ∀ t' k, R (.ok (.ret (.bytes (uppered b) t'))) { s with toks := k }) := by
  refine .of_wp fun prog w A R s hS => ?_
  refine wpAny_bind (m := selfOnly _ _) (wpAny_pure ?_)
  refine wpAny_bind (m := Bytes.payload (.bytes b t)) (wpAny_pure ?_)
  refine wpAny_bind (m := mkBytes _) (wpAny_mkBytes ?_ (by rw [sizeLine_eq]; simpa using hb))
  exact wpAny_pure ⟨_, rfl, hS _ _⟩
theorem call_upper {b : Array UInt8} {t : Tok} {Q : Value → Shared → Prop} (hb : b.size ≤ 16777216) (h : ∀ t' k, Q (.bytes (uppered b) t') { s with toks := k }) :
    wpAny (model prog w) A (call (.builtin "bytes.upper") [.bytes b t]) Q E s :=
  call_meets slot_bytes_upper (typeIs_bytes _ _ _) entry_bytes_upper (args_bytes_upper _) (meets_upper hb) h
/-! hex -/
noncomputable def hexed (b : Array UInt8) : Array Nat := (b.toList.flatMap fun c => [Bytes.hexDigit (c.toNat / 16), Bytes.hexDigit (c.toNat % 16)]).toArray
theorem hex_fold (l : List UInt8) : ∀ (k : Nat) (out : Array Nat), (l.zipIdx k).foldl (fun (out : Array Nat) (x : UInt8 × Nat) => (out.push (Bytes.hexDigit (x.1.toNat / 16))).push (Bytes.hexDigit (x.1.toNat % 16))) out = out ++ (l.flatMap fun c => [Bytes.hexDigit (c.toNat / 16), Bytes.hexDigit (c.toNat % 16)]).toArray := by
  induction l with
  | nil => intro k out; simp
  | cons c r ih =>
    intro k out
    rw [List.zipIdx_cons, List.foldl_cons, ih]
    simp [List.flatMap_cons]
theorem hexed_size (b : Array UInt8) : (hexed b).size = 2 * b.size := by
  unfold hexed
  obtain ⟨l⟩ := b
  simp
  induction l with
  | nil => rfl
  | cons c r ih => simp [List.flatMap_cons] at ih ⊢; omega
end
theorem bindH : Bytes.bindOptional "bytes.hex" "hex" ["sep", "bytes_per_sep"] [] [] = pure [none, none] := by kernel_rfl
theorem meets_hex {b : Array UInt8} {t : Tok} (hb : b.size ≤ 8388608) :
    Meets («bytes.hex» ⟨[.bytes b t], []⟩) (fun _ R s => ∀ t' k, R (.ok (.ret (.str ⟨hexed b⟩ t'))) { s with toks := k }) := by
  refine .of_wp fun prog w A R s hS => ?_
  show wpAny _ _ (Bytes.bindOptional "bytes.hex" "hex" ["sep", "bytes_per_sep"] [] [] >>= fun r => _) _ _ _
  rw [bindH]
  refine wpAny_bind (wpAny_pure ?_)
  refine wpAny_bind (m := pure 1) (wpAny_pure ?_)
  refine wpAny_bind (m := pure ()) (wpAny_pure ?_)
  refine wpAny_bind (m := pure none) (wpAny_pure ?_)
  refine wpAny_bind (m := Bytes.payload (.bytes b t)) (wpAny_pure ?_)
  dsimp only
  have e := hex_fold b.toList 0 #[]
  have e2 : (#[] : Array Nat) ++ (b.toList.flatMap fun c => [Bytes.hexDigit (c.toNat / 16), Bytes.hexDigit (c.toNat % 16)]).toArray = hexed b := by rw [Array.empty_append]; rfl
  rw [e2] at e
  rw [e]
  refine wpAny_bind (m := mkStr _) (wpAny_mkStr (wpAny_pure ⟨_, rfl, hS _ _⟩) ?_)
  rw [sizeLine_eq]
  show (hexed b).size ≤ _
  rw [hexed_size]
  omega
theorem bindE (v : Value) : Str.bindOptional "str.encode" "encode" 0 ["encoding", "errors"] [v] [] = pure [some v, none] := by kernel_rfl
theorem codecE (t : Tok) : Str.codecArg "str.encode" "encode" "'encoding'" (some (.str (PySem.Str.ofString "ascii") t)) = pure (some (PySem.Str.ofString "ascii")) := by kernel_rfl
theorem roadE (self : Value) (x : PySem.Str) : _codecs.encodeRoad "str.encode" self x (PySem.Str.ofString "ascii") none = (_codecs.encodeNarrow "str.encode" _codecs.asciiCodec none self x >>= fun b => mkBytes b) := by kernel_rfl
theorem forIn_once {β : Type} {f : Nat → β → Sem (ForInStep β)} {a b : β} (h1 : ∀ k, f k a = pure (.yield b)) (h2 : ∀ k, f k b = pure (.done b)) (k : Nat) (l : List Nat) : forIn (k :: l) a f = pure b := by
  rw [List.forIn_cons, h1, pure_bind]
  dsimp only
  cases l with
  | nil => rfl
  | cons k' l' => rw [List.forIn_cons, h2, pure_bind]
theorem fold_bytes (l : List Nat) : ∀ acc : Array UInt8, l.foldl (fun acc y => acc ++ ([y.toUInt8] : List UInt8).toArray) acc = acc ++ (l.map (·.toUInt8)).toArray := by
  induction l with
  | nil => intro acc; simp
  | cons y r ih => intro acc; rw [List.foldl_cons, ih]; simp
theorem narrowE (self : Value) (x : PySem.Str) (hx : ∀ c ∈ x.cps.toList, c < 128) (hne : x.cps ≠ #[]) (hs : x.cps.size ≤ 1000) : _codecs.encodeNarrow "str.encode" _codecs.asciiCodec none self x = pure (x.cps.map (·.toUInt8)) := by
  unfold _codecs.encodeNarrow
  dsimp only
  rw [Std.Legacy.Range.forIn_eq_forIn_range']
  obtain ⟨cps⟩ := x
  obtain ⟨l⟩ := cps
  cases l with
  | nil => exact absurd rfl hne
  | cons c r =>
    have hr : List.range' [:(PySem.Str.mk (c :: r).toArray).length].start [:(PySem.Str.mk (c :: r).toArray).length].size [:(PySem.Str.mk (c :: r).toArray).length].step = 0 :: List.range' 1 r.length 1 := by
      simp [PySem.Str.length, List.range'_succ]
    rw [hr]
    have hc : c < 128 := hx c (List.mem_cons_self ..)
    have hbad : _codecs.asciiCodec.bad c = false := by show decide (c ≥ 128) = false; exact decide_eq_false (by omega)
    have hex : (c :: r).toArray.extract 0 = (c :: r).toArray := by simp
    have hfind : Array.findIdx? _codecs.asciiCodec.bad (c :: r).toArray = none := by
      rw [Array.findIdx?_eq_none_iff]
      intro y hy
      have := hx y (by simpa using hy)
      show decide (y ≥ 128) = false
      exact decide_eq_false (by omega)
    have hfold : Array.foldl (fun acc y => acc ++ (_codecs.asciiCodec.bytesOf y).toArray) #[] (c :: r).toArray = ((c :: r).map (·.toUInt8)).toArray := by
      rw [List.foldl_toArray]
      have := fold_bytes (c :: r) #[]
      rw [Array.empty_append] at this
      exact this
    rw [forIn_once (b := ((c :: r).length, ((c :: r).map (·.toUInt8)).toArray, {})) (fun k => ?_) (fun k => ?_)]
    · simp
    · dsimp only
      rw [if_neg (by decide)]
      have h0 : (c :: r).toArray[0]? = some c := by simp
      rw [h0]
      dsimp only
      rw [hbad, if_pos (by rfl), hex, hfind]
      simp only [Option.getD_none]
      have hs2 : (c :: r).toArray.extract 0 (c :: r).toArray.size = (c :: r).toArray := by simp
      rw [hs2, hfold]
      simp
    · dsimp only
      have hs' : (c :: r).length ≤ 1000 := by simpa using hs
      rw [if_neg (by rw [List.size_toArray, List.length_map, sizeLine_eq]; omega)]
      have h0 : (c :: r).toArray[(c :: r).length]? = none := by simp
      rw [h0]
theorem meets_encode {x : PySem.Str} {t u : Tok} (hx : ∀ c ∈ x.cps.toList, c < 128) (hne : x.cps ≠ #[]) (hs : x.cps.size ≤ 1000) :
    Meets («str.encode» ⟨[.str x t, .str (PySem.Str.ofString "ascii") u], []⟩) (fun _ R s => ∀ t' k, R (.ok (.ret (.bytes (x.cps.map (·.toUInt8)) t'))) { s with toks := k }) := by
  refine .of_wp fun prog w A R s hS => ?_
  refine wpAny_bind (m := Str.strSelf _) (wpAny_pure ?_)
  show wpAny _ _ (Str.bindOptional "str.encode" "encode" 0 ["encoding", "errors"] [.str (PySem.Str.ofString "ascii") u] [] >>= fun r => _) _ _ _
  rw [bindE]
  refine wpAny_bind (wpAny_pure ?_)
  dsimp only
  rw [codecE]
  refine wpAny_bind (wpAny_pure ?_)
  refine wpAny_bind (m := Str.codecArg _ _ _ none) (wpAny_pure ?_)
  show wpAny _ _ (_codecs.encodeRoad "str.encode" (.str x t) x (PySem.Str.ofString "ascii") none >>= fun v => _) _ _ _
  rw [roadE, narrowE _ _ hx hne hs]
  refine wpAny_bind (wpAny_bind (wpAny_pure ?_))
  exact wpAny_mkBytes (wpAny_pure ⟨_, rfl, hS _ _⟩) (by rw [sizeLine_eq, Array.size_map]; omega)
section
variable {prog : Program} {w : World} {A : Around} {E : Value → Shared → Prop} {s : Shared}
theorem call_hex {b : Array UInt8} {t : Tok} {Q : Value → Shared → Prop} (hb : b.size ≤ 8388608) (h : ∀ t' k, Q (.str ⟨hexed b⟩ t') { s with toks := k }) :
    wpAny (model prog w) A (call (.builtin "bytes.hex") [.bytes b t]) Q E s :=
  call_meets slot_bytes_hex (typeIs_bytes _ _ _) entry_bytes_hex (args_bytes_hex _) (meets_hex hb) h
theorem call_encode {x : PySem.Str} {t u : Tok} {Q : Value → Shared → Prop} (hx : ∀ c ∈ x.cps.toList, c < 128) (hne : x.cps ≠ #[]) (hs : x.cps.size ≤ 1000) (h : ∀ t' k, Q (.bytes (x.cps.map (·.toUInt8)) t') { s with toks := k }) :
    wpAny (model prog w) A (call (.builtin "str.encode") [.str x t, .str (PySem.Str.ofString "ascii") u]) Q E s :=
  call_meets F.slot_str_encode (typeIs_str _ _ _) F.entry_str_encode (F.args_str_encode_2 _ _) (meets_encode hx hne hs) h
end
theorem hexed_lt (b : Array UInt8) : ∀ c ∈ (hexed b).toList, c < 128 := by
  intro c hc
  unfold hexed at hc
  rw [List.toList_toArray, List.mem_flatMap] at hc
  obtain ⟨u, _, hc⟩ := hc
  have h1 : ∀ n, n < 16 → Bytes.hexDigit n < 128 := by intro n hn; unfold Bytes.hexDigit; split <;> omega
  have hu := u.toNat_lt
  rcases List.mem_cons.mp hc with rfl | hc
  · exact h1 _ (by omega)
  · rw [List.mem_singleton.mp hc]
    exact h1 _ (by omega)
end Mine

/-! MEnc -/
open PySem PySem.W PyProof.Rows PySem.Spec PySem.Calls
set_option maxRecDepth 100000
set_option maxHeartbeats 4000000
set_option linter.unusedVariables false
namespace Mine
theorem in_nil : KBa.In [] := fun _ h => nomatch h
theorem in_b64 {i : Int} {r : List Int} (h : KBa.In r) : KBa.In (b64c i :: r) := fun n hn => by
  rcases List.mem_cons.mp hn with rfl | hn
  · exact b64c_in _
  · exact h n hn
theorem len_two {prog : Program} {w : World} {A : Around} {E : Value → Shared → Prop} {s : Shared} {b : Array UInt8} {t : Tok} {Q : Value → Shared → Prop} (hb : b.size = 2) (h : Q (.int 2 (s.toks + 1)) { s with toks := s.toks + 1 + 1 }) :
    wpAny (model prog w) A (call (.builtin "len") [.bytes b t]) Q E s := len_bytes (by omega) (by rw [hb]; exact h)
section
variable {M : Model} {A : Around} {E : Value → Shared → Prop} {s : Shared} {x : PySem.Str} {t : Tok} {pl : Sem Bool} {Q : Value × List Value → Shared → Prop}
theorem method_encode (h : Q (.builtin "str.encode", [.str x t]) s) : wpAny M A (getMethod (.str x t) "encode" pl) Q E s :=
  getMethod_builtin (typeIs_str _ _ _) F.plainAttrs_str F.slot_str_encode F.type_str_encode (fun _ e => nomatch e) h
end
/-- the base-64 writing of the number v in c figures, with these altchars -/
noncomputable def enc (al : Array UInt8) (v : Int) (c : Nat) : Array UInt8 := translated (mkTable #[43, 47] al) (byteArr ((figs v 64 c).map b64c))
/-- the base-16 writing -/
noncomputable def hexU (b : Array UInt8) : Array UInt8 := uppered ((hexed b).map (·.toUInt8))
local macro_rules | `(tactic| walk_at $s:str) => `(tactic| k_extra $s)
theorem words_MEnc : True := by
  k_with_none
  k_with "my enterP" => k_dflt (refine' enter_plain ?k1 ?k2 ?k3 ?k5 ?kA ?kF ?kK ?k6 ?k7 ?k8 ?k9 ?kB ?_ ?c2 ?c3 ?c4 ?c5; (case kA => exact rfl); (case kF => exact rfl); (case kK => first | exact rfl | assumption); (case k1 => k_asm); (case k2 => k_asm); (case k3 => k_asm); (case k5 => k_asm); (case k6 => k_is); (case k7 => k_is); (case k8 => ktr_room); (case k9 => first | exact BindsTo.of_eq rfl | exact binds_K (by k_in) rfl (by k_is) rfl rfl rfl | fail "enter: no rule for these arguments"); (case c5 => decide); (case kB => exact locs rfl); (case c2 => exact rfl); (case c3 => exact rfl); (case c4 => exact rfl); k_whole; intro L' h' F' N' B' X' T'; (try dsimp only); (try k_lift B'); (try k_fold))
  k_with "my enterC" => k_dflt (refine' enter_cells ?k1 ?k2 ?k3 ?k5 ?kA ?kF ?kK ?k6 ?k7 ?k8 ?k9 ?kB ?kD ?_ ?c2 ?c3 ?c4; (case kA => exact rfl); (case kF => exact rfl); (case kK => first | exact rfl | assumption); (case k1 => k_asm); (case k2 => k_asm); (case k3 => k_asm); (case k5 => k_asm); (case k6 => k_is); (case k7 => k_is); (case k8 => ktr_room); (case k9 => first | exact BindsTo.of_eq rfl | exact binds_K (by k_in) rfl (by k_is) rfl rfl rfl | fail "enter: no rule for these arguments"); (case kB => exact rfl); (case kD => decide +kernel); (case c2 => exact rfl); (case c3 => exact rfl); (case c4 => exact rfl); k_whole; intro L' h' tk' cells' F' N' Y' B' X' T'; k_cells Y'; (try simp only [List.cons_append, List.nil_append] at N'); (try dsimp only); (try k_lift B'); (try k_fold))
  k_with "my enter1" => k_dflt (refine' enter_cells1 ?k0 ?k1 ?k2 ?k3 ?k5 ?kA ?kF ?kK ?k6 ?k7 ?k8 ?k9 ?kB ?kD ?_ ?c2 ?c3 ?c4; (case kA => exact rfl); (case kF => exact rfl); (case kK => first | exact rfl | assumption); (case k0 => k_asm); (case k1 => k_asm); (case k2 => k_asm); (case k3 => k_asm); (case k5 => k_asm); (case k6 => k_is); (case k7 => k_is); (case k8 => ktr_room); (case k9 => first | exact BindsTo.of_eq rfl | exact binds_K (by k_in) rfl (by k_is) rfl rfl rfl | fail "enter: no rule for these arguments"); (case kB => exact rfl); (case kD => decide +kernel); (case c2 => exact rfl); (case c3 => exact rfl); (case c4 => exact rfl); k_whole; intro g' L' h' tk' cells' hg' FG' F' N' Y' B' X' T' l1; (try k_lt l1); k_cells Y'; (try simp only [List.cons_append, List.nil_append] at N'); (try dsimp only); (try k_lift B'); (try k_fold))
  k_with "my in1" => ((refine wpAny_call ?_); (walk_at "my enter1"); k_steps)
  k_with "my enter" => first | (walk_at "my enterP") | (walk_at "my enterC") | fail "enter"
  k_with "my open" => (w_top off; k_fill; dsimp only [MC, MC1]; intros)
  k_with "my in" => ((refine wpAny_call ?_); (walk_at "my enter"); k_steps)
  k_with "compareOp Gt bytes bytes" => (refine gt_bytes ?_)
  k_with "compareOp Lt bytes bytes" => (refine lt_bytes ?_)
  k_with "binaryOp FloorDiv int int" => (k_here; (with_reducible show wpAny _ _ (binaryOp Operator.FloorDiv (Value.int _ _) (Value.int (_ ^ Int.toNat _) _)) _ _ _); (with_reducible refine floordiv_pow ?fpa ?fpb ?fpc ?_); (case fpa => decide); (case fpb => decide); (case fpc => l_bnd))
  k_with "call ref" => (k_here; (with_reducible show wpAny _ _ (call (Value.ref _) _ _) _ _ _); (refine wpAny_call ?_); (walk_at "my enter"); walk_say "MY ENTER")
  k_with "call type:type" => (k_here; first
      | ((with_reducible show wpAny _ _ (call (Value.type "type") [Value.bytes _ _]) _ _ _); refine call_type_of (Tx := "bytes") rfl (by decide +kernel) ?_)
      | ((with_reducible show wpAny _ _ (call (Value.type "type") [Value.bool _]) _ _ _); refine call_type_of (Tx := "bool") rfl (by decide +kernel) ?_)
      | ((with_reducible show wpAny _ _ (call (Value.type "type") [Value.int _ _]) _ _ _); refine call_type_of (Tx := "int") rfl (by decide +kernel) ?_))
  k_with "pyIter bytes" => ((with_reducible show wpAny _ _ (pyIter (Value.bytes _ _)) (fun it s₂ => LoopAtV _ _ _ _ _ _ _ _ _ it s₂) _ _); k_here; k_bytesUnr; walk_say "MY UNROLL")
  k_with "binaryOp BitOr int int" => (k_here; (with_reducible show wpAny _ _ (binaryOp Operator.BitOr (Value.int (_ * 2 ^ Int.toNat 8) _) (Value.int _ _)) _ _ _); (with_reducible refine or_lowR ?oa ?ob ?oc ?_); (case oa => omega); (case ob => omega); (case oc => omega))
  k_with "binaryOp BitAnd int int" => (k_here; first | ((with_reducible show wpAny _ _ (binaryOp Operator.BitAnd (Value.int _ _) (Value.int 65535 _)) _ _ _); with_reducible refine and_16R ?_) | ((with_reducible show wpAny _ _ (binaryOp Operator.BitAnd (Value.int _ _) (Value.int 63 _)) _ _ _); with_reducible refine and_6R ?_))
  k_with "binaryOp RShift int int" => (k_here; first | ((with_reducible refine rshift_R (k := 2) ?rs ?_); (case rs => decide)) | ((with_reducible refine rshift_R (k := 4) ?rs ?_); (case rs => decide)) | ((with_reducible refine rshift_R (k := 6) ?rs ?_); (case rs => decide)) | ((with_reducible refine rshift_R (k := 0) ?rs ?_); (case rs => decide)))
  k_with "subscriptTail" => (k_here; (with_reducible show wpAny _ _ (subscriptTail _ _ (Value.bytes _ _) (Value.int (_ % 64) _)) _ _ _); k_dflt (refine item_b64 (Int.emod_nonneg _ (by decide)) (Int.emod_lt_of_pos _ (by decide)) ?_))
  k_with "getMethod bytes" => (k_here; first | with_reducible refine method_translate ?_ | with_reducible refine method_hex ?_ | with_reducible refine method_upper ?_ | with_reducible refine method_index ?_)
  k_with "call type:bytes" => (k_here; (with_reducible show wpAny _ _ (call (Value.type "bytes") [Value.ref _]) _ _ _); k_dflt (refine' KBa.make_K ?kbaF ?kbaN ?kbah ?kbal ?kbai ?kbar ?kban ?_; (case kbaF => k_asm); (case kbaN => k_asm); (case kbah => rfl); (case kbal => kba_isList); (case kbai => first | kba_listInts | (repeat constructor)); (case kbar => repeat (first | exact in_nil | refine in_b64 ?_)); (case kban => first | kba_size | (simp only [List.length_cons, List.length_nil]; decide))); intro _ _ _ F' N' kbaIn)
  k_with "call builtin:len" => (k_here; (with_reducible show wpAny _ _ (call (Value.builtin "len") [Value.bytes _ _]) _ _ _); (with_reducible refine len_two (by assumption) ?_))
  k_with "getMethod" => (k_here; (with_reducible show wpAny _ _ (getMethod (Value.type "bytes") _ _) _ _ _); with_reducible refine getm_maketrans ?_)
  k_with "getMethod type:bytes" => (k_here; (with_reducible show wpAny _ _ (getMethod (Value.type "bytes") _ _) _ _ _); with_reducible refine getm_maketrans ?_)
  k_with "call builtin:bytes.maketrans" => (k_here; (with_reducible refine call_maketrans ?mt ?_); (case mt => (first | assumption | (rw [show (Array.size _ = 2) from by assumption]; rfl))))
  k_with "call builtin:bytes.translate" => (k_here; (with_reducible refine call_translate (mkTable_size _ _) ?tb ?_); (case tb => (rw [byteArr_size]; simp only [List.length_cons, List.length_nil]; decide)); intro _ _)
  k_with "call builtin:bytes.hex" => (k_here; (with_reducible refine call_hex ?hb ?_); (case hb => omega); intro _ _)
  k_with "call builtin:bytes.upper" => (k_here; (with_reducible refine call_upper ?hb ?_); (case hb => (rw [Array.size_map, hexed_size]; omega)); intro _ _)
  k_with "call builtin:str.encode" => (k_here; (with_reducible refine call_encode (hexed_lt _) ?he ?hs ?_); (case he => assumption); (case hs => ((try dsimp only); rw [hexed_size]; omega)); intro _ _)
  k_with "getMethod str" => (k_here; with_reducible refine method_encode ?_)
  exact trivial
theorem b16_c {prog w p loose mean mg mb} (b : Array UInt8) (ts : Tok) (hb : b.size ≤ 100) (hne : hexed b ≠ #[]) :
   (fun (_ : OpenLaw) => MC prog w (hd.heap_39 w.params) p loose mean mg mb 74 20 100 [.bytes b ts] NoPre (PostV fun t => .bytes (hexU b) t)) Challenge.rw_mr0018_01 := by
  walk_at "my open"
  rename_i hret
  walk_at "my in"
  exact hret _ _ _ (Fr.keep (by assumption)) ⟨_, rfl⟩
theorem figs4 (v : Int) : figs v 64 4 = [v / 64 ^ 3 % 64, v / 64 ^ 2 % 64, v / 64 ^ 1 % 64, v / 64 ^ 0 % 64] := rfl
theorem figs8 (v : Int) : figs v 64 8 = [v / 64 ^ 7 % 64, v / 64 ^ 6 % 64, v / 64 ^ 5 % 64, v / 64 ^ 4 % 64, v / 64 ^ 3 % 64, v / 64 ^ 2 % 64, v / 64 ^ 1 % 64, v / 64 ^ 0 % 64] := rfl

theorem left_step {L p i : Int} (hL : L % 256 = p) (hi : 0 ≤ i ∧ i < 256) : (L * 256 + i) % 65536 = p * 256 + i := by omega
theorem left_mod {p i : Int} (hi : 0 ≤ i ∧ i < 256) : (p * 256 + i) % 256 = i := by omega
/-- the octets behind a place do not count above it -/
theorem cut_step {v a i q : Int} (hv : v / q = a * 256 + i) (hq : 0 ≤ q) (hi : 0 ≤ i ∧ i < 256) : v / (q * 256) = a := by
  rw [← Int.ediv_ediv_of_nonneg hq, hv]
  omega
theorem cut_to {v a q p n : Int} (hv : v / q = a) (hq : 0 ≤ q) (hn : q * p = n) : v / n = a / p := by
  rw [← hn, ← Int.ediv_ediv_of_nonneg hq, hv]
theorem two_last (a b i : Int) (p : Int) (hp : p = 4 ∨ p = 16 ∨ p = 64 ∨ p = 1) : ((a * 256 + b) * 256 + i) / p % 64 = (b * 256 + i) / p % 64 := by
  rcases hp with rfl | rfl | rfl | rfl <;> omega
theorem b64_arith3 (f : Int → Int) {i0 i1 i2 : Int} (h0 : 0 ≤ i0 ∧ i0 < 256) (h1 : 0 ≤ i1 ∧ i1 < 256) (h2 : 0 ≤ i2 ∧ i2 < 256) :
    [f ((0 * 256 + i0) % 65536 / 2 ^ 2 % 64), f (((0 * 256 + i0) % 65536 * 256 + i1) % 65536 / 2 ^ 4 % 64),
      f ((((0 * 256 + i0) % 65536 * 256 + i1) % 65536 * 256 + i2) % 65536 / 2 ^ 6 % 64),
      f ((((0 * 256 + i0) % 65536 * 256 + i1) % 65536 * 256 + i2) % 65536 / 2 ^ 0 % 64)] =
    [f (((i0 * 256 + i1) * 256 + i2) / 64 ^ 3 % 64), f (((i0 * 256 + i1) * 256 + i2) / 64 ^ 2 % 64),
      f (((i0 * 256 + i1) * 256 + i2) / 64 ^ 1 % 64), f (((i0 * 256 + i1) * 256 + i2) / 64 ^ 0 % 64)] := by
  rw [left_step (L := 0) (p := 0) rfl h0, left_step (left_mod h0) h1, left_step (left_mod h1) h2]
  have z : 0 * 256 + i0 = i0 := by rw [Int.zero_mul, Int.zero_add]
  have c2 : ((i0 * 256 + i1) * 256 + i2) / 1 = (i0 * 256 + i1) * 256 + i2 := Int.ediv_one _
  have c1 := cut_step c2 (by decide) h2
  have c0 := cut_step c1 (by decide) h1
  rw [z, cut_to (p := 2 ^ 2) (n := 64 ^ 3) c0 (by decide) (by decide), cut_to (p := 2 ^ 4) (n := 64 ^ 2) c1 (by decide) (by decide), cut_to (p := 2 ^ 6) (n := 64 ^ 1) c2 (by decide) (by decide), cut_to (p := 2 ^ 0) (n := 64 ^ 0) c2 (by decide) (by decide)]
  rw [two_last i0 i1 i2 (2 ^ 6) (by decide), two_last i0 i1 i2 (2 ^ 0) (by decide)]
theorem b64_arith6 (f : Int → Int) {i0 i1 i2 i3 i4 i5 : Int} (h0 : 0 ≤ i0 ∧ i0 < 256) (h1 : 0 ≤ i1 ∧ i1 < 256) (h2 : 0 ≤ i2 ∧ i2 < 256) (h3 : 0 ≤ i3 ∧ i3 < 256) (h4 : 0 ≤ i4 ∧ i4 < 256) (h5 : 0 ≤ i5 ∧ i5 < 256) :
    [f ((0 * 256 + i0) % 65536 / 2 ^ 2 % 64), f (((0 * 256 + i0) % 65536 * 256 + i1) % 65536 / 2 ^ 4 % 64),
      f ((((0 * 256 + i0) % 65536 * 256 + i1) % 65536 * 256 + i2) % 65536 / 2 ^ 6 % 64),
      f ((((0 * 256 + i0) % 65536 * 256 + i1) % 65536 * 256 + i2) % 65536 / 2 ^ 0 % 64),
      f (((((0 * 256 + i0) % 65536 * 256 + i1) % 65536 * 256 + i2) % 65536 * 256 + i3) % 65536 / 2 ^ 2 % 64),
      f ((((((0 * 256 + i0) % 65536 * 256 + i1) % 65536 * 256 + i2) % 65536 * 256 + i3) % 65536 * 256 + i4) % 65536 / 2 ^ 4 % 64),
      f (((((((0 * 256 + i0) % 65536 * 256 + i1) % 65536 * 256 + i2) % 65536 * 256 + i3) % 65536 * 256 + i4) % 65536 * 256 + i5) % 65536 / 2 ^ 6 % 64),
      f (((((((0 * 256 + i0) % 65536 * 256 + i1) % 65536 * 256 + i2) % 65536 * 256 + i3) % 65536 * 256 + i4) % 65536 * 256 + i5) % 65536 / 2 ^ 0 % 64)] =
    [f ((((((i0 * 256 + i1) * 256 + i2) * 256 + i3) * 256 + i4) * 256 + i5) / 64 ^ 7 % 64), f ((((((i0 * 256 + i1) * 256 + i2) * 256 + i3) * 256 + i4) * 256 + i5) / 64 ^ 6 % 64), f ((((((i0 * 256 + i1) * 256 + i2) * 256 + i3) * 256 + i4) * 256 + i5) / 64 ^ 5 % 64), f ((((((i0 * 256 + i1) * 256 + i2) * 256 + i3) * 256 + i4) * 256 + i5) / 64 ^ 4 % 64),
      f ((((((i0 * 256 + i1) * 256 + i2) * 256 + i3) * 256 + i4) * 256 + i5) / 64 ^ 3 % 64), f ((((((i0 * 256 + i1) * 256 + i2) * 256 + i3) * 256 + i4) * 256 + i5) / 64 ^ 2 % 64), f ((((((i0 * 256 + i1) * 256 + i2) * 256 + i3) * 256 + i4) * 256 + i5) / 64 ^ 1 % 64), f ((((((i0 * 256 + i1) * 256 + i2) * 256 + i3) * 256 + i4) * 256 + i5) / 64 ^ 0 % 64)] := by
  rw [left_step (L := 0) (p := 0) rfl h0, left_step (left_mod h0) h1, left_step (left_mod h1) h2, left_step (left_mod h2) h3, left_step (left_mod h3) h4, left_step (left_mod h4) h5]
  have z : 0 * 256 + i0 = i0 := by rw [Int.zero_mul, Int.zero_add]
  have c5 : (((((i0 * 256 + i1) * 256 + i2) * 256 + i3) * 256 + i4) * 256 + i5) / 1 = ((((i0 * 256 + i1) * 256 + i2) * 256 + i3) * 256 + i4) * 256 + i5 := Int.ediv_one _
  have c4 := cut_step c5 (by decide) h5
  have c3 := cut_step c4 (by decide) h4
  have c2 := cut_step c3 (by decide) h3
  have c1 := cut_step c2 (by decide) h2
  have c0 := cut_step c1 (by decide) h1
  rw [z, cut_to (p := 2 ^ 2) (n := 64 ^ 7) c0 (by decide) (by decide), cut_to (p := 2 ^ 4) (n := 64 ^ 6) c1 (by decide) (by decide), cut_to (p := 2 ^ 6) (n := 64 ^ 5) c2 (by decide) (by decide), cut_to (p := 2 ^ 0) (n := 64 ^ 4) c2 (by decide) (by decide),
    cut_to (p := 2 ^ 2) (n := 64 ^ 3) c3 (by decide) (by decide), cut_to (p := 2 ^ 4) (n := 64 ^ 2) c4 (by decide) (by decide), cut_to (p := 2 ^ 6) (n := 64 ^ 1) c5 (by decide) (by decide), cut_to (p := 2 ^ 0) (n := 64 ^ 0) c5 (by decide) (by decide)]
  rw [two_last i0 i1 i2 (2 ^ 6) (by decide), two_last i0 i1 i2 (2 ^ 0) (by decide), two_last _ i2 i3 (2 ^ 2) (by decide), two_last _ i3 i4 (2 ^ 4) (by decide), two_last _ i4 i5 (2 ^ 6) (by decide), two_last _ i4 i5 (2 ^ 0) (by decide)]

theorem b64_3 {prog w p loose mean mg mb} (bs : Array UInt8) (i0 i1 i2 : Int) (al : Array UInt8) (ts ta : Tok) (hx : KBw.bInts bs = [i0, i1, i2]) (hal : al.size = 2) :
   (fun (_ : OpenLaw) => MC prog w (hd.heap_39 w.params) p loose mean mg mb 67 20 100 [.bytes bs ts, .bytes al ta] NoPre (PostV fun t => .bytes (enc al ((i0 * 256 + i1) * 256 + i2) 4) t)) Challenge.rw_mr0018_01 := by
  have hal2 : (#[43, 47] : Array UInt8).size = al.size := by rw [hal]; rfl
  have hin : ∀ k ∈ KBw.bInts bs, 0 ≤ k ∧ k < 256 := fun k hk => KBw.ints_in hk
  rw [hx] at hin
  simp only [List.forall_mem_cons] at hin
  walk_at "my open"
  rename_i hret
  walk_at "my in"
  refine hret _ _ _ (Fr.keep (by assumption)) ⟨_, congrArg (fun z => Value.bytes z _) ?_⟩
  unfold enc
  rw [figs4]
  refine congrArg (fun z => translated (mkTable #[43, 47] al) (byteArr z)) ?_
  exact b64_arith3 b64c hin.1 hin.2.1 hin.2.2.1

theorem b64_6 {prog w p loose mean mg mb} (bs : Array UInt8) (i0 i1 i2 i3 i4 i5 : Int) (al : Array UInt8) (ts ta : Tok) (hx : KBw.bInts bs = [i0, i1, i2, i3, i4, i5]) (hal : al.size = 2) :
   (fun (_ : OpenLaw) => MC prog w (hd.heap_39 w.params) p loose mean mg mb 67 20 100 [.bytes bs ts, .bytes al ta] NoPre (PostV fun t => .bytes (enc al (((((i0 * 256 + i1) * 256 + i2) * 256 + i3) * 256 + i4) * 256 + i5) 8) t)) Challenge.rw_mr0018_01 := by
  have hal2 : (#[43, 47] : Array UInt8).size = al.size := by rw [hal]; rfl
  have hin : ∀ k ∈ KBw.bInts bs, 0 ≤ k ∧ k < 256 := fun k hk => KBw.ints_in hk
  rw [hx] at hin
  simp only [List.forall_mem_cons] at hin
  walk_at "my open"
  rename_i hret
  walk_at "my in"
  refine hret _ _ _ (Fr.keep (by assumption)) ⟨_, congrArg (fun z => Value.bytes z _) ?_⟩
  unfold enc
  rw [figs8]
  refine congrArg (fun z => translated (mkTable #[43, 47] al) (byteArr z)) ?_
  exact b64_arith6 b64c hin.1 hin.2.1 hin.2.2.1 hin.2.2.2.1 hin.2.2.2.2.1 hin.2.2.2.2.2.1
end Mine

/-! MSgn -/
open PySem PySem.W PyProof.Rows PySem.Spec PySem.Calls
set_option maxRecDepth 100000
set_option maxHeartbeats 4000000
set_option linter.unusedVariables false
namespace Mine
section
variable {prog : Program} {w : World} {A : Around} {E : Value → Shared → Prop} {s : Shared} {value slice : PySem.Expr} {D : Addr} {ys : List Value} {ns : List Int} {i : Int} {u : Tok} {Q : Value → Shared → Prop}
/-- an item of a list of ints at a place in bounds -/
theorem item_ints (hD : s.heap.get? D = some (LCg.lst ys)) (hI : IntsAre ys ns) (h0 : 0 ≤ i) (h1 : i < (ns.length : Int)) (hb : ns.length < 2 ^ 62) (h : ∀ t, Q (.int (ns.getD i.toNat 0) t) s)
    (hs : subscripted slice false (.ref D) (.int i u) = operate [.ref D, .int i u] (getItem (.ref D) (.int i u)) := by with_unfolding_all rfl) :
    wpAny (model prog w) A (subscriptTail value slice (.ref D) (.int i u)) Q E s := by
  have hl : s.heap.IsList D ys.toArray := ⟨_, hD, rfl, _, rfl⟩
  have hlen := hI.length
  have hlt : i.toNat < ys.length := by omega
  obtain ⟨t, ht⟩ := hI.int_at i.toNat ys[i.toNat] (List.getElem?_eq_getElem hlt)
  have hx : ys[i.toNat]? = some (.int (ns.getD i.toNat 0) t) := by rw [List.getElem?_eq_getElem hlt, ht]
  exact tail_any hl.typeIs slot_list_getitem.lookup (wpAny_getItem_list hl h0 (by omega) (by simpa using hx) (h t)) hs
end
noncomputable def freeL : List Int := [0, 43, 45, 47, 58, 64, 91, 95, 123, 255]
noncomputable def othersL (f : Int) : List Int := freeL.foldl (fun l' k' => if ¬k' = f then l' ++ [k'] else l') []
noncomputable def sgn1 (n : Int) : Int := freeL.getD (n.fmod 10).toNat 0
noncomputable def sgn2 (n : Int) : Int := (othersL (sgn1 n)).getD ((n.fdiv 10).fmod 9).toNat 0
theorem others_nine : ∀ k : Fin 10, (othersL (freeL.getD k.val 0)).length = 9 ∧ ∀ j : Fin 9, 0 ≤ freeL.getD k.val 0 ∧ freeL.getD k.val 0 < 256 ∧ 0 ≤ (othersL (freeL.getD k.val 0)).getD j.val 0 ∧ (othersL (freeL.getD k.val 0)).getD j.val 0 < 256 := by decide +kernel
theorem fmod_fin (n : Int) : ∃ k : Fin 10, (n.fmod 10).toNat = k.val := ⟨⟨(n.fmod 10).toNat, by have := fmod_lo (n := 10) n (by decide); have := fmod_hi (n := 10) n (by decide); omega⟩, rfl⟩
theorem fmod_fin9 (n : Int) : ∃ k : Fin 9, (n.fmod 9).toNat = k.val := ⟨⟨(n.fmod 9).toNat, by have := fmod_lo (n := 9) n (by decide); have := fmod_hi (n := 9) n (by decide); omega⟩, rfl⟩
theorem others_len (n : Int) : (othersL (sgn1 n)).length = 9 := by
  obtain ⟨k, hk⟩ := fmod_fin n
  unfold sgn1
  rw [hk]
  exact (others_nine k).1
theorem signs_in (n : Int) : KBa.In [sgn1 n, sgn2 n] := by
  obtain ⟨k, hk⟩ := fmod_fin n
  obtain ⟨j, hj⟩ := fmod_fin9 (n.fdiv 10)
  have h := (others_nine k).2 j
  have e1 : sgn1 n = freeL.getD k.val 0 := by unfold sgn1; rw [hk]
  have e2 : sgn2 n = (othersL (freeL.getD k.val 0)).getD j.val 0 := by unfold sgn2; rw [e1, hj]
  intro m hm
  rcases List.mem_cons.mp hm with rfl | hm
  · rw [e1]; exact ⟨h.1, h.2.1⟩
  · rw [List.mem_singleton.mp hm, e2]; exact ⟨h.2.2.1, h.2.2.2⟩
theorem il9 (n m : Int) : m.fmod 9 < ((othersL (sgn1 n)).length : Int) := by rw [others_len]; exact fmod_hi _ (by decide)
theorem ib9 (n : Int) : (othersL (sgn1 n)).length < 2 ^ 62 := by rw [others_len]; decide
local macro_rules | `(tactic| walk_at $s:str) => `(tactic| k_extra $s)
theorem words_MSgn : True := by
  k_with_none
  k_with "my enterP" => k_dflt (refine' enter_plain ?k1 ?k2 ?k3 ?k5 ?kA ?kF ?kK ?k6 ?k7 ?k8 ?k9 ?kB ?_ ?c2 ?c3 ?c4 ?c5; (case kA => exact rfl); (case kF => exact rfl); (case kK => first | exact rfl | assumption); (case k1 => k_asm); (case k2 => k_asm); (case k3 => k_asm); (case k5 => k_asm); (case k6 => k_is); (case k7 => k_is); (case k8 => ktr_room); (case k9 => first | exact BindsTo.of_eq rfl | exact binds_K (by k_in) rfl (by k_is) rfl rfl rfl | fail "enter: no rule for these arguments"); (case c5 => decide); (case kB => exact locs rfl); (case c2 => exact rfl); (case c3 => exact rfl); (case c4 => exact rfl); k_whole; intro L' h' F' N' B' X' T'; (try dsimp only); (try k_lift B'); (try k_fold))
  k_with "my enterC" => k_dflt (refine' enter_cells ?k1 ?k2 ?k3 ?k5 ?kA ?kF ?kK ?k6 ?k7 ?k8 ?k9 ?kB ?kD ?_ ?c2 ?c3 ?c4; (case kA => exact rfl); (case kF => exact rfl); (case kK => first | exact rfl | assumption); (case k1 => k_asm); (case k2 => k_asm); (case k3 => k_asm); (case k5 => k_asm); (case k6 => k_is); (case k7 => k_is); (case k8 => ktr_room); (case k9 => first | exact BindsTo.of_eq rfl | exact binds_K (by k_in) rfl (by k_is) rfl rfl rfl | fail "enter: no rule for these arguments"); (case kB => exact rfl); (case kD => decide +kernel); (case c2 => exact rfl); (case c3 => exact rfl); (case c4 => exact rfl); k_whole; intro L' h' tk' cells' F' N' Y' B' X' T'; k_cells Y'; (try simp only [List.cons_append, List.nil_append] at N'); (try dsimp only); (try k_lift B'); (try k_fold))
  k_with "my enter1" => k_dflt (refine' enter_cells1 ?k0 ?k1 ?k2 ?k3 ?k5 ?kA ?kF ?kK ?k6 ?k7 ?k8 ?k9 ?kB ?kD ?_ ?c2 ?c3 ?c4; (case kA => exact rfl); (case kF => exact rfl); (case kK => first | exact rfl | assumption); (case k0 => k_asm); (case k1 => k_asm); (case k2 => k_asm); (case k3 => k_asm); (case k5 => k_asm); (case k6 => k_is); (case k7 => k_is); (case k8 => ktr_room); (case k9 => first | exact BindsTo.of_eq rfl | exact binds_K (by k_in) rfl (by k_is) rfl rfl rfl | fail "enter: no rule for these arguments"); (case kB => exact rfl); (case kD => decide +kernel); (case c2 => exact rfl); (case c3 => exact rfl); (case c4 => exact rfl); k_whole; intro g' L' h' tk' cells' hg' FG' F' N' Y' B' X' T' l1; (try k_lt l1); k_cells Y'; (try simp only [List.cons_append, List.nil_append] at N'); (try dsimp only); (try k_lift B'); (try k_fold))
  k_with "my in1" => ((refine wpAny_call ?_); (walk_at "my enter1"); k_steps)
  k_with "my enter" => first | (walk_at "my enterP") | (walk_at "my enterC") | fail "enter"
  k_with "my open" => (w_top off; k_fill; dsimp only [MC, MC1]; intros)
  k_with "my in" => ((refine wpAny_call ?_); (walk_at "my enter"); k_steps)
  k_with "compareOp Gt bytes bytes" => (refine gt_bytes ?_)
  k_with "compareOp Lt bytes bytes" => (refine lt_bytes ?_)
  k_with "binaryOp FloorDiv int int" => (k_here; (with_reducible show wpAny _ _ (binaryOp Operator.FloorDiv (Value.int _ _) (Value.int (_ ^ Int.toNat _) _)) _ _ _); (with_reducible refine floordiv_pow ?fpa ?fpb ?fpc ?_); (case fpa => decide); (case fpb => decide); (case fpc => l_bnd))
  k_with "call ref" => (k_here; (with_reducible show wpAny _ _ (call (Value.ref _) _ _) _ _ _); (refine wpAny_call ?_); (walk_at "my enter"); walk_say "MY ENTER")
  k_with "call type:type" => (k_here; first
      | ((with_reducible show wpAny _ _ (call (Value.type "type") [Value.bytes _ _]) _ _ _); refine call_type_of (Tx := "bytes") rfl (by decide +kernel) ?_)
      | ((with_reducible show wpAny _ _ (call (Value.type "type") [Value.bool _]) _ _ _); refine call_type_of (Tx := "bool") rfl (by decide +kernel) ?_)
      | ((with_reducible show wpAny _ _ (call (Value.type "type") [Value.int _ _]) _ _ _); refine call_type_of (Tx := "int") rfl (by decide +kernel) ?_))
  k_with "pyIter bytes" => ((with_reducible show wpAny _ _ (pyIter (Value.bytes _ _)) (fun it s₂ => LoopAtV _ _ _ _ _ _ _ _ _ it s₂) _ _); k_here; k_bytesUnr; walk_say "MY UNROLL")
  k_with "binaryOp BitOr int int" => (k_here; (with_reducible show wpAny _ _ (binaryOp Operator.BitOr (Value.int (_ * 2 ^ Int.toNat 8) _) (Value.int _ _)) _ _ _); (with_reducible refine or_lowR ?oa ?ob ?oc ?_); (case oa => omega); (case ob => omega); (case oc => omega))
  k_with "binaryOp BitAnd int int" => (k_here; first | ((with_reducible show wpAny _ _ (binaryOp Operator.BitAnd (Value.int _ _) (Value.int 65535 _)) _ _ _); with_reducible refine and_16R ?_) | ((with_reducible show wpAny _ _ (binaryOp Operator.BitAnd (Value.int _ _) (Value.int 63 _)) _ _ _); with_reducible refine and_6R ?_))
  k_with "binaryOp RShift int int" => (k_here; first | ((with_reducible refine rshift_R (k := 2) ?rs ?_); (case rs => decide)) | ((with_reducible refine rshift_R (k := 4) ?rs ?_); (case rs => decide)) | ((with_reducible refine rshift_R (k := 6) ?rs ?_); (case rs => decide)) | ((with_reducible refine rshift_R (k := 0) ?rs ?_); (case rs => decide)))
  k_with "subscriptTail" => (k_here; (with_reducible show wpAny _ _ (subscriptTail _ _ (Value.bytes _ _) (Value.int (_ % 64) _)) _ _ _); k_dflt (refine item_b64 (Int.emod_nonneg _ (by decide)) (Int.emod_lt_of_pos _ (by decide)) ?_))
  k_with "getMethod bytes" => (k_here; first | with_reducible refine method_translate ?_ | with_reducible refine method_hex ?_ | with_reducible refine method_upper ?_ | with_reducible refine method_index ?_)
  k_with "call type:bytes" => (k_here; (with_reducible show wpAny _ _ (call (Value.type "bytes") [Value.ref _]) _ _ _); k_dflt (refine' KBa.make_K ?kbaF ?kbaN ?kbah ?kbal ?kbai ?kbar ?kban ?_; (case kbaF => k_asm); (case kbaN => k_asm); (case kbah => rfl); (case kbal => kba_isList); (case kbai => first | kba_listInts | (repeat constructor)); (case kbar => repeat (first | exact in_nil | refine in_b64 ?_)); (case kban => first | kba_size | (simp only [List.length_cons, List.length_nil]; decide))); intro _ _ _ F' N' kbaIn)
  k_with "call builtin:len" => (k_here; (with_reducible show wpAny _ _ (call (Value.builtin "len") [Value.bytes _ _]) _ _ _); (with_reducible refine len_two (by assumption) ?_))
  k_with "getMethod" => (k_here; (with_reducible show wpAny _ _ (getMethod (Value.type "bytes") _ _) _ _ _); with_reducible refine getm_maketrans ?_)
  k_with "getMethod type:bytes" => (k_here; (with_reducible show wpAny _ _ (getMethod (Value.type "bytes") _ _) _ _ _); with_reducible refine getm_maketrans ?_)
  k_with "call builtin:bytes.maketrans" => (k_here; (with_reducible refine call_maketrans ?mt ?_); (case mt => (first | assumption | (rw [show (Array.size _ = 2) from by assumption]; rfl))))
  k_with "call builtin:bytes.translate" => (k_here; (with_reducible refine call_translate (mkTable_size _ _) ?tb ?_); (case tb => (rw [byteArr_size]; simp only [List.length_cons, List.length_nil]; decide)); intro _ _)
  k_with "call builtin:bytes.hex" => (k_here; (with_reducible refine call_hex ?hb ?_); (case hb => omega); intro _ _)
  k_with "call builtin:bytes.upper" => (k_here; (with_reducible refine call_upper ?hb ?_); (case hb => (rw [Array.size_map, hexed_size]; omega)); intro _ _)
  k_with "call builtin:str.encode" => (k_here; (with_reducible refine call_encode (hexed_lt _) ?he ?hs ?_); (case he => assumption); (case hs => ((try dsimp only); rw [hexed_size]; omega)); intro _ _)
  k_with "getMethod str" => (k_here; with_reducible refine method_encode ?_)
  k_with "exec Assign cons ListComp" => (k_here; lct_look; lcg_calm; (k_dflt (refine LCt.Assign_ListComp_T (F₀ := by k_asm) (by rfl) (by with_unfolding_all rfl) (by with_unfolding_all rfl) (by decide) (by rfl) (by decide) (by rfl) (by rfl) (by rfl) ?_)); walk_say "MY LCT")
  k_with "CompSrcT" => (k_here; k_dflt (refine LCt.CompSrcT.ledger (by rfl) (by k_asm) (by k_asm) (by k_mem) (by first | size_fits | exact Nat.le_of_ble_eq_true rfl) ?_; intro g'; (refine' kci_list _ (by repeat constructor) (fun k' t' I' oI' C' oC' D' m' ys' l' h' tk' E' hk' hI' hC' hx' F' N' off' ne' => ?_) ?_ ?_); (all_goals (try (simp only [LCg.Off3, and_true] at off'))); (all_goals (try ((show KPfMark → _); intro hMark'))); kcf_last); walk_say "MY KCI")
  k_with "subscriptTail" => (k_here; (with_reducible show wpAny _ _ (subscriptTail _ _ (Value.ref _) (Value.int (Int.fmod (Int.fdiv _ _) _) _)) _ _ _); k_dflt (refine' item_ints (News.get (by k_asm) (by k_mem)) (by k_asm) (fmod_lo _ (by decide)) ?il ?ib ?_; (case il => exact il9 _ _); (case ib => exact ib9 _)); intro _)
  k_with "call type:bytes" => (k_here; (with_reducible show wpAny _ _ (call (Value.type "bytes") [Value.ref _]) _ _ _); k_dflt (refine' KBa.make_K ?kbaF ?kbaN ?kbah ?kbal ?kbai ?kbar ?kban ?_; (case kbaF => k_asm); (case kbaN => k_asm); (case kbah => rfl); (case kbal => kba_isList); (case kbai => first | kba_listInts | (repeat constructor)); (case kbar => exact signs_in _); (case kban => first | kba_size | (simp only [List.length_cons, List.length_nil]; decide))); intro _ _ _ F' N' kbaIn)
  exact trivial
theorem signs_c {prog w p loose mean mg mb} (n : Int) (tn : Tok) :
   (fun (_ : OpenLaw) => MC prog w (hd.heap_39 w.params) p loose mean mg mb 96 20 100 [.int n tn] NoPre (PostV fun t => .bytes (byteArr [sgn1 n, sgn2 n]) t)) Challenge.rw_mr0018_01 := by
  walk_at "my open"
  rename_i hret
  walk_at "my in"
  exact hret _ _ _ (Fr.keep (by assumption)) ⟨_, rfl⟩
end Mine

/-! MHal -/
open PySem PySem.W PyProof.Rows PySem.Spec PySem.Calls
set_option maxRecDepth 100000
set_option maxHeartbeats 4000000
set_option linter.unusedVariables false
namespace Mine
section
variable {prog : Program} {w : World} {K : Frag} {p : Program} {loose : List Str} {mean : ExcName → Option Value} {mg mb : Str → Option Value} {f : Addr} {vs : List Value} {Pre : Heap → Prop} {R : Tok → Value} {ns : List Int} {dk uk : Nat}
  {dp un : Nat} {gd : Option (List Code)} {cn : Str} {cs : Scope} {a : Addr} {ccd : Value} {cl : List (Str × Addr)} {outer : List Env} {A₀ : Around} {base h₀ : Heap} {L : Addr} {m : Str → Option Value} {s : Shared} {Q E : Value → Shared → Prop} {news : List (Addr × Obj)}
/-- a contract used: a plain value -/
theorem useV (C : MC prog w K p loose mean mg mb f dk uk vs Pre (PostV R)) (B : Below A₀ base outer h₀) (F : Fr h₀ L s.heap m) (X : K.In h₀) (N : News h₀ L s.heap news) (T : Top p loose mean mg mb h₀) (hk : cs.kind = .function)
    (hd : dp + dk < recursionLimit) (hu : un + uk < cLine) (hp : Pre s.heap) (h : ∀ t h' tk', s.heap.StaysIn h' → Fr h₀ L h' m → News h₀ L h' news → Q (R t) { s with heap := h', toks := tk' }) :
    wpAny (model prog w) (ktrTop dp un gd cn cs L a ccd cl outer) (call (.ref f) vs) Q E s :=
  C _ _ _ _ _ _ _ _ _ _ _ _ _ _ _ _ _ B F X T hk hd hu hp fun v h' tk' st po => by obtain ⟨t, rfl⟩ := po; exact h t h' tk' st (F.keptAll st) (N.grown st)
/-- a contract used: a new list of ints -/
theorem useL (C : MC prog w K p loose mean mg mb f dk uk vs Pre (PostL ns)) (B : Below A₀ base outer h₀) (F : Fr h₀ L s.heap m) (X : K.In h₀) (N : News h₀ L s.heap news) (T : Top p loose mean mg mb h₀) (hk : cs.kind = .function)
    (hd : dp + dk < recursionLimit) (hu : un + uk < cLine) (hp : Pre s.heap) (h : ∀ D ys h' tk', s.heap.StaysIn h' → IntsAre ys ns → Fr h₀ L h' m → News h₀ L h' ((D, LCg.lst ys) :: news) → (∀ p ∈ news, p.1 ≠ D) → Q (.ref D) { s with heap := h', toks := tk' }) :
    wpAny (model prog w) (ktrTop dp un gd cn cs L a ccd cl outer) (call (.ref f) vs) Q E s :=
  C _ _ _ _ _ _ _ _ _ _ _ _ _ _ _ _ _ B F X T hk hd hu hp fun v h' tk' st po => by
    obtain ⟨D, ys, rfl, hn, hD, hI⟩ := po
    refine h D ys h' tk' st hI (F.keptAll st) (fun q hq => ?_) (fun q hq e => by have := (N q hq).1; rw [e, hn] at this; cases this)
    rcases List.mem_cons.mp hq with rfl | hq
    · refine ⟨hD, fun e => ?_, ?_⟩
      · obtain ⟨oL, _, _, hL, _⟩ := F.ns
        have e' : D = L := e
        rw [e', hL] at hn; cases hn
      · cases e : h₀.get? D with
        | none => rfl
        | some o => have := F.keep _ _ e; rw [hn] at this; cases this
    · exact (N.grown st) q hq
end

/-- a handed function: of an int below N it makes the bytes W k -/
structure Lam (prog : Program) (w : World) (K : Frag) (p : Program) (loose : List Str) (mean : ExcName → Option Value) (mg mb : Str → Option Value) (f : Addr) (N : Int) (W : Int → Array UInt8) (Pre : Heap → Prop) : Prop where
  keeps : ∀ h h', Pre h → h.StaysIn h' → Pre h'
  fn : ∀ h, Pre h → FnAt f h
  call : ∀ k t, 0 ≤ k → k < N → MC prog w K p loose mean mg mb f 40 200 [.int k t] Pre (PostV fun t => .bytes (W k) t)
/-- the order of the writings about the hidden one's place -/
structure Ranked (N : Int) (W : Int → Array UInt8) (hid : Array UInt8) (r : Int) : Prop where
  lo : 0 ≤ r
  hi : r < N
  small : N ≤ 2 ^ 48
  cmp : ∀ k, 0 ≤ k → k < N → (k < r ∧ cmpB (W k) hid = -1) ∨ (k = r ∧ cmpB (W k) hid = 0) ∨ (r < k ∧ cmpB (W k) hid = 1)

section
variable {prog : Program} {w : World} {K : Frag} {p : Program} {loose : List Str} {mean : ExcName → Option Value} {mg mb : Str → Option Value} {f : Addr} {N : Int} {W : Int → Array UInt8} {Pre : Heap → Prop} {hid : Array UInt8} {r : Int}
  {dp un : Nat} {gd : Option (List Code)} {cn : Str} {cs : Scope} {a : Addr} {ccd : Value} {cl : List (Str × Addr)} {outer : List Env} {A₀ : Around} {base h₀ : Heap} {L : Addr} {m : Str → Option Value} {s : Shared} {Q E : Value → Shared → Prop} {news : List (Addr × Obj)}
theorem lam_fn (Lm : Lam prog w K p loose mean mg mb f N W Pre) (hp : Pre h₀) {h : Heap} (F : Fr h₀ L h m) : FnAt f h := Lm.fn _ (Lm.keeps _ _ hp F.keep)
theorem lam_use {k : Int} {t : Tok} (Lm : Lam prog w K p loose mean mg mb f N W Pre) (hp : Pre h₀) (B : Below A₀ base outer h₀) (F : Fr h₀ L s.heap m) (X : K.In h₀) (N' : News h₀ L s.heap news) (T : Top p loose mean mg mb h₀) (hk : cs.kind = .function)
    (hd : dp + 40 < recursionLimit) (hu : un + 200 < cLine) (h0 : 0 ≤ k) (h1 : k < N) (h : ∀ t h' tk', Fr h₀ L h' m → News h₀ L h' news → Q (.bytes (W k) t) { s with heap := h', toks := tk' }) :
    wpAny (model prog w) (ktrTop dp un gd cn cs L a ccd cl outer) (call (.ref f) [.int k t]) Q E s :=
  useV (Lm.call k t h0 h1) B F X N' T hk hd hu (Lm.keeps _ _ hp F.keep) fun t h' tk' _ F' N'' => h t h' tk' F' N''
end
theorem rank_use {prog : Program} {w : World} {p : Program} {loose : List Str} {mean : ExcName → Option Value} {mg mb : Str → Option Value} {N : Int} {W : Int → Array UInt8} {hid : Array UInt8} {r : Int}
  {dp un : Nat} {gd : Option (List Code)} {cn : Str} {cs : Scope} {a : Addr} {ccd : Value} {cl : List (Str × Addr)} {outer : List Env} {A₀ : Around} {base h₀ : Heap} {L : Addr} {m : Str → Option Value} {s : Shared} {Q E : Value → Shared → Prop} {news : List (Addr × Obj)}
    {k : Int} {t u : Tok} (Rk : Ranked N W hid r) (h0 : 0 ≤ k) (h1 : k < N) (B : Below A₀ base outer h₀) (F : Fr h₀ L s.heap m) (X : Frag.In (hd.heap_39 w.params) h₀) (N' : News h₀ L s.heap news) (T : Top p loose mean mg mb h₀) (hk : cs.kind = .function)
    (hd : dp + 20 < recursionLimit) (hu : un + 100 < cLine) (h : ∀ c t h' tk', (k < r ∧ c = -1) ∨ (k = r ∧ c = 0) ∨ (r < k ∧ c = 1) → Fr h₀ L h' m → News h₀ L h' news → Q (.int c t) { s with heap := h', toks := tk' }) :
    wpAny (model prog w) (ktrTop dp un gd cn cs L a ccd cl outer) (call (.ref 28) [.bytes (W k) t, .bytes hid u]) Q E s :=
  useV (strcoll_c (W k) hid t u) B F X N' T hk hd hu trivial fun t h' tk' _ F' N'' => h _ t h' tk' (Rk.cmp k h0 h1) F' N''
theorem floordiv_two {prog : Program} {w : World} {A : Around} {E : Value → Shared → Prop} {s : Shared} {a : Int} {t u : Tok} {Q : Value → Shared → Prop} (h : Q (.int (a / 2) s.toks) { s with toks := s.toks + 1 }) :
    wpAny (model prog w) A (binaryOp .FloorDiv (.int a t) (.int 2 u)) Q E s :=
  floordiv_int (by decide) (by rw [Int.fdiv_eq_ediv_of_nonneg _ (by decide)]; exact h) (Or.inl (PyProof.noPylong_of_log2 (by decide +kernel)))
local macro_rules | `(tactic| walk_at $s:str) => `(tactic| k_extra $s)
theorem words_MHal : True := by
  k_with_none
  k_with "my enterP" => k_dflt (refine' enter_plain ?k1 ?k2 ?k3 ?k5 ?kA ?kF ?kK ?k6 ?k7 ?k8 ?k9 ?kB ?_ ?c2 ?c3 ?c4 ?c5; (case kA => exact rfl); (case kF => exact rfl); (case kK => first | exact rfl | assumption); (case k1 => k_asm); (case k2 => k_asm); (case k3 => k_asm); (case k5 => k_asm); (case k6 => k_is); (case k7 => k_is); (case k8 => ktr_room); (case k9 => first | exact BindsTo.of_eq rfl | exact binds_K (by k_in) rfl (by k_is) rfl rfl rfl | fail "enter: no rule for these arguments"); (case c5 => decide); (case kB => exact locs rfl); (case c2 => exact rfl); (case c3 => exact rfl); (case c4 => exact rfl); k_whole; intro L' h' F' N' B' X' T'; (try dsimp only); (try k_lift B'); (try k_fold))
  k_with "my enterC" => k_dflt (refine' enter_cells ?k1 ?k2 ?k3 ?k5 ?kA ?kF ?kK ?k6 ?k7 ?k8 ?k9 ?kB ?kD ?_ ?c2 ?c3 ?c4; (case kA => exact rfl); (case kF => exact rfl); (case kK => first | exact rfl | assumption); (case k1 => k_asm); (case k2 => k_asm); (case k3 => k_asm); (case k5 => k_asm); (case k6 => k_is); (case k7 => k_is); (case k8 => ktr_room); (case k9 => first | exact BindsTo.of_eq rfl | exact binds_K (by k_in) rfl (by k_is) rfl rfl rfl | fail "enter: no rule for these arguments"); (case kB => exact rfl); (case kD => decide +kernel); (case c2 => exact rfl); (case c3 => exact rfl); (case c4 => exact rfl); k_whole; intro L' h' tk' cells' F' N' Y' B' X' T'; k_cells Y'; (try simp only [List.cons_append, List.nil_append] at N'); (try dsimp only); (try k_lift B'); (try k_fold))
  k_with "my enter1" => k_dflt (refine' enter_cells1 ?k0 ?k1 ?k2 ?k3 ?k5 ?kA ?kF ?kK ?k6 ?k7 ?k8 ?k9 ?kB ?kD ?_ ?c2 ?c3 ?c4; (case kA => exact rfl); (case kF => exact rfl); (case kK => first | exact rfl | assumption); (case k0 => k_asm); (case k1 => k_asm); (case k2 => k_asm); (case k3 => k_asm); (case k5 => k_asm); (case k6 => k_is); (case k7 => k_is); (case k8 => ktr_room); (case k9 => first | exact BindsTo.of_eq rfl | exact binds_K (by k_in) rfl (by k_is) rfl rfl rfl | fail "enter: no rule for these arguments"); (case kB => exact rfl); (case kD => decide +kernel); (case c2 => exact rfl); (case c3 => exact rfl); (case c4 => exact rfl); k_whole; intro g' L' h' tk' cells' hg' FG' F' N' Y' B' X' T' l1; (try k_lt l1); k_cells Y'; (try simp only [List.cons_append, List.nil_append] at N'); (try dsimp only); (try k_lift B'); (try k_fold))
  k_with "my in1" => ((refine wpAny_call ?_); (walk_at "my enter1"); k_steps)
  k_with "my enter" => first | (walk_at "my enterP") | (walk_at "my enterC") | fail "enter"
  k_with "my open" => (w_top off; k_fill; dsimp only [MC, MC1]; intros)
  k_with "my in" => ((refine wpAny_call ?_); (walk_at "my enter"); k_steps)
  k_with "compareOp Gt bytes bytes" => (refine gt_bytes ?_)
  k_with "compareOp Lt bytes bytes" => (refine lt_bytes ?_)
  k_with "callWith ref" => (k_here; (with_reducible show wpAny _ _ (callWith _ (Value.ref _) _ (backTo _ (starEach (_ :: _) _)) []) _ _ _); k_dflt (refine' callWith_F ?k1 ?_; (case k1 => exact lam_fn (by assumption) (by assumption) (by k_asm)); k_whole))
  k_with "FnAt" => (k_dflt (exact lam_fn (by assumption) (by assumption) (by k_asm)))
  k_with "call ref" => (k_here; k_dflt (first
      | (refine' rank_use ?rk ?r0 ?r1 ?k1 ?k2 ?k3 ?k4 ?k5 ?kK ?kd ?ku ?_; (case rk => assumption); (case r0 => first | omega | l_fact); (case r1 => first | omega | l_fact); (case k1 => k_asm); (case k2 => k_asm); (case k3 => k_asm); (case k4 => k_asm); (case k5 => k_asm); (case kK => first | exact rfl | assumption); (case kd => ktr_room); (case ku => ktr_units); intro c9 t9 h9 tk9 hc9 F9 N9; (try dsimp only); (try k_fold))
      | (refine' lam_use ?lm ?hp ?k1 ?k2 ?k3 ?k4 ?k5 ?kK ?kd ?ku ?r0 ?r1 ?_; (case lm => assumption); (case hp => assumption); (case k1 => k_asm); (case k2 => k_asm); (case k3 => k_asm); (case k4 => k_asm); (case k5 => k_asm); (case kK => first | exact rfl | assumption); (case kd => ktr_room); (case ku => ktr_units); (case r0 => first | omega | l_fact); (case r1 => first | omega | l_fact); intro t9 h9 tk9 F9 N9; (try dsimp only); (try k_fold))))
  k_with "binaryOp FloorDiv int int" => (k_here; (with_reducible show wpAny _ _ (binaryOp Operator.FloorDiv (Value.int _ _) (Value.int 2 _)) _ _ _); with_reducible refine floordiv_two ?_)
  exact trivial
theorem halved_c {prog w p loose mean mg mb} (f : Addr) (N : Int) (W : Int → Array UInt8) (hid : Array UInt8) (r : Int) (Pre : Heap → Prop) (tl th : Tok) (Rk : Ranked N W hid r)
   (Lm : Lam prog w (hd.heap_39 w.params) p loose mean mg mb f N W Pre) :
   (fun (_ : OpenLaw) => MC prog w (hd.heap_39 w.params) p loose mean mg mb 103 60 300 [.int N tl, .ref f, .bytes hid th] Pre (PostV fun t => .int r t)) Challenge.rw_mr0018_01 := by
  have hlo := Rk.lo
  have hhi := Rk.hi
  have hsm := Rk.small
  walk_at "my open"
  rename_i hpre hret
  k_with "exec While Compare cons nil" => k_while (fun _ low high => 0 ≤ low ∧ low ≤ r ∧ r < high ∧ high ≤ N) (fun _ low high => (high - low).toNat) "low" "high"
  walk_at "my in"
  all_goals first
    | (exfalso; omega)
    | exact hret _ _ _ (Fr.keep (by assumption)) ⟨_, congrArg (fun z => Value.int z _) (by omega)⟩
end Mine

/-! MMath -/
open PySem PySem.W PyProof.Rows PySem.Spec PySem.Calls
set_option maxRecDepth 100000
set_option maxHeartbeats 400000
set_option linter.unusedVariables false
namespace Mine
open PySem.Builtin

theorem figs_succ (n b : Int) (c : Nat) : figs n b (c + 1) = (n / b ^ c % b) :: figs n b c := by
  unfold figs
  rw [List.range_succ_eq_map, List.map_cons, List.map_map]
  refine congr (congrArg List.cons ?_) ?_
  · show n / b ^ (c + 1 - 1 - 0) % b = n / b ^ c % b
    rfl
  · refine List.map_congr_left fun k hk => ?_
    show n / b ^ (c + 1 - 1 - (k + 1)) % b = n / b ^ (c - 1 - k) % b
    have : c + 1 - 1 - (k + 1) = c - 1 - k := by omega
    rw [this]
theorem pow_split (b : Int) (c k : Nat) (h : k < c) : b ^ c = b ^ (c - 1 - k) * (b * b ^ k) := by
  rw [← Int.pow_succ', ← Int.pow_add]
  congr 1
  omega
theorem emod_mul_ediv' (n p q : Int) (hp : 0 < p) : n % (p * q) / p = n / p % q := by
  have e1 : n % (p * q) = n + p * (-(q * (n / (p * q)))) := by
    rw [Int.emod_def, Int.mul_neg, ← Int.mul_assoc]; omega
  rw [e1, Int.add_mul_ediv_left _ _ (Int.ne_of_gt hp), Int.emod_def, ← Int.ediv_ediv_of_nonneg (Int.le_of_lt hp)]
  omega
theorem figs_mod (n b : Int) (hb : 0 < b) (c : Nat) : figs (n % b ^ c) b c = figs n b c := by
  unfold figs
  refine List.map_congr_left fun k hk => ?_
  have hk' := List.mem_range.mp hk
  have hp : 0 < b ^ (c - 1 - k) := Int.pow_pos hb
  have e := pow_split b c k hk'
  rw [e, emod_mul_ediv' _ _ _ hp, Int.emod_emod_of_dvd _ (Int.dvd_mul_right b (b ^ k))]
theorem figs_len (n b : Int) (c : Nat) : (figs n b c).length = c := by simp [figs]
theorem figs_in (n b : Int) (hb : 0 < b) (c : Nat) : ∀ d ∈ figs n b c, 0 ≤ d ∧ d < b := fun d hd => by
  obtain ⟨k, _, rfl⟩ := List.mem_map.mp hd
  exact ⟨Int.emod_nonneg _ (Int.ne_of_gt hb), Int.emod_lt_of_pos _ hb⟩

theorem order_append (l s t : List UInt8) : Bytes.order (l ++ s) (l ++ t) = Bytes.order s t := by
  induction l with
  | nil => rfl
  | cons x r ih =>
    show (if x < x then _ else if x > x then _ else Bytes.order (r ++ s) (r ++ t)) = _
    rw [if_neg (UInt8.lt_irrefl x), if_neg (UInt8.lt_irrefl x), ih]
theorem order_refl (l : List UInt8) : Bytes.order l l = .eq := by
  have := order_append l [] []
  simpa [Bytes.order] using this

/-- the order of writings figure by figure is the order of the numbers -/
theorem order_figs {b : Int} (hb : 0 < b) {g : Int → List UInt8}
    (hlt : ∀ a a', 0 ≤ a → a < a' → a' < b → ∀ s t, Bytes.order (g a ++ s) (g a' ++ t) = .lt)
    (hgt : ∀ a a', 0 ≤ a → a < a' → a' < b → ∀ s t, Bytes.order (g a' ++ s) (g a ++ t) = .gt) :
    ∀ (c : Nat) (n m : Int), 0 ≤ n → n < b ^ c → 0 ≤ m → m < b ^ c →
      (n < m ∧ Bytes.order ((figs n b c).flatMap g) ((figs m b c).flatMap g) = .lt) ∨ (n = m ∧ Bytes.order ((figs n b c).flatMap g) ((figs m b c).flatMap g) = .eq) ∨ (m < n ∧ Bytes.order ((figs n b c).flatMap g) ((figs m b c).flatMap g) = .gt)
  | 0, n, m, h0, h1, h2, h3 => by
    have e1 : n = 0 := by rw [Int.pow_zero] at h1; omega
    have e2 : m = 0 := by rw [Int.pow_zero] at h3; omega
    exact .inr (.inl ⟨by omega, by rw [e1, e2]; exact order_refl _⟩)
  | c + 1, n, m, h0, h1, h2, h3 => by
    have hp : 0 < b ^ c := Int.pow_pos hb
    have hps : b ^ (c + 1) = b * b ^ c := by rw [Int.pow_succ, Int.mul_comm]
    rw [hps] at h1 h3
    have qn0 : 0 ≤ n / b ^ c := Int.ediv_nonneg h0 (Int.le_of_lt hp)
    have qm0 : 0 ≤ m / b ^ c := Int.ediv_nonneg h2 (Int.le_of_lt hp)
    have qn1 : n / b ^ c < b := Int.ediv_lt_of_lt_mul hp h1
    have qm1 : m / b ^ c < b := Int.ediv_lt_of_lt_mul hp h3
    rw [figs_succ, figs_succ, Int.emod_eq_of_lt qn0 qn1, Int.emod_eq_of_lt qm0 qm1, List.flatMap_cons, List.flatMap_cons]
    have dn : b ^ c * (n / b ^ c) + n % b ^ c = n := Int.mul_ediv_add_emod n (b ^ c)
    have dm : b ^ c * (m / b ^ c) + m % b ^ c = m := Int.mul_ediv_add_emod m (b ^ c)
    have rn0 := Int.emod_nonneg n (Int.ne_of_gt hp)
    have rm0 := Int.emod_nonneg m (Int.ne_of_gt hp)
    have rn1 := Int.emod_lt_of_pos n hp
    have rm1 := Int.emod_lt_of_pos m hp
    rcases Int.lt_trichotomy (n / b ^ c) (m / b ^ c) with hq | hq | hq
    · refine .inl ⟨?_, hlt _ _ qn0 hq qm1 _ _⟩
      have : b ^ c * (n / b ^ c + 1) ≤ b ^ c * (m / b ^ c) := Int.mul_le_mul_of_nonneg_left hq (Int.le_of_lt hp)
      rw [Int.mul_add, Int.mul_one] at this
      omega
    · rw [hq, order_append, ← figs_mod n b hb c, ← figs_mod m b hb c]
      rw [hq] at dn
      rcases order_figs hb hlt hgt c (n % b ^ c) (m % b ^ c) rn0 rn1 rm0 rm1 with ⟨h, e⟩ | ⟨h, e⟩ | ⟨h, e⟩
      · exact .inl ⟨by omega, e⟩
      · exact .inr (.inl ⟨by omega, e⟩)
      · exact .inr (.inr ⟨by omega, e⟩)
    · refine .inr (.inr ⟨?_, hgt _ _ qm0 hq qn1 _ _⟩)
      have : b ^ c * (m / b ^ c + 1) ≤ b ^ c * (n / b ^ c) := Int.mul_le_mul_of_nonneg_left hq (Int.le_of_lt hp)
      rw [Int.mul_add, Int.mul_one] at this
      omega

/-! base 16 -/
noncomputable def hc (k : Nat) : UInt8 := Bytes.toUpper (Bytes.hexDigit k).toUInt8
theorem hc_mono : ∀ i j : Fin 16, i < j → hc i.val < hc j.val := by decide +kernel
noncomputable def g16 (d : Int) : List UInt8 := [hc (d.toNat.toUInt8.toNat / 16), hc (d.toNat.toUInt8.toNat % 16)]
theorem hexU_list (ns : List Int) : (hexU (byteArr ns)).toList = ns.flatMap g16 := by
  unfold hexU uppered hexed byteArr g16 hc
  simp [List.map_flatMap, List.flatMap_map]
theorem byte_nat {d : Int} (h0 : 0 ≤ d) (h1 : d < 256) : d.toNat.toUInt8.toNat = d.toNat := by
  show d.toNat % 256 = d.toNat
  omega
theorem order_lt {x y : UInt8} (h : x < y) (s t : List UInt8) : Bytes.order (x :: s) (y :: t) = .lt := by
  show (if x < y then _ else _) = _
  rw [if_pos h]
theorem order_gt {x y : UInt8} (h : x < y) (s t : List UInt8) : Bytes.order (y :: s) (x :: t) = .gt := by
  show (if y < x then _ else if y > x then _ else _) = _
  rw [if_neg (fun h' => UInt8.lt_irrefl _ (UInt8.lt_trans h h')), if_pos h]
theorem order_same (x : UInt8) (s t : List UInt8) : Bytes.order (x :: s) (x :: t) = Bytes.order s t := order_append [x] s t
theorem g16_lt (a a' : Int) (h0 : 0 ≤ a) (h : a < a') (h1 : a' < 256) (s t : List UInt8) : Bytes.order (g16 a ++ s) (g16 a' ++ t) = .lt := by
  unfold g16
  rw [byte_nat h0 (by omega), byte_nat (by omega) h1]
  show Bytes.order (hc (a.toNat / 16) :: hc (a.toNat % 16) :: s) (hc (a'.toNat / 16) :: hc (a'.toNat % 16) :: t) = .lt
  by_cases hq : a.toNat / 16 < a'.toNat / 16
  · exact order_lt (hc_mono ⟨_, by omega⟩ ⟨_, by omega⟩ hq) _ _
  · have e : a.toNat / 16 = a'.toNat / 16 := by omega
    rw [e, order_same]
    exact order_lt (hc_mono ⟨a.toNat % 16, by omega⟩ ⟨a'.toNat % 16, by omega⟩ (by show a.toNat % 16 < a'.toNat % 16; omega)) _ _
theorem g16_gt (a a' : Int) (h0 : 0 ≤ a) (h : a < a') (h1 : a' < 256) (s t : List UInt8) : Bytes.order (g16 a' ++ s) (g16 a ++ t) = .gt := by
  unfold g16
  rw [byte_nat h0 (by omega), byte_nat (by omega) h1]
  show Bytes.order (hc (a'.toNat / 16) :: hc (a'.toNat % 16) :: s) (hc (a.toNat / 16) :: hc (a.toNat % 16) :: t) = .gt
  by_cases hq : a.toNat / 16 < a'.toNat / 16
  · exact order_gt (hc_mono ⟨_, by omega⟩ ⟨_, by omega⟩ hq) _ _
  · have e : a.toNat / 16 = a'.toNat / 16 := by omega
    rw [e, order_same]
    exact order_gt (hc_mono ⟨a.toNat % 16, by omega⟩ ⟨a'.toNat % 16, by omega⟩ (by show a.toNat % 16 < a'.toNat % 16; omega)) _ _

theorem cmp_lt {a b : Array UInt8} (h : Bytes.order a.toList b.toList = .lt) : cmpB a b = -1 := by unfold cmpB; rw [h]; rfl
theorem cmp_eq {a b : Array UInt8} (h : Bytes.order a.toList b.toList = .eq) : cmpB a b = 0 := by unfold cmpB; rw [h]; rfl
theorem cmp_gt {a b : Array UInt8} (h : Bytes.order a.toList b.toList = .gt) : cmpB a b = 1 := by unfold cmpB; rw [h]; rfl

/-- a writing figure by figure ranks as the number -/
theorem ranked_of {b : Int} {c : Nat} (hb : 0 < b) (hsm : b ^ c ≤ 2 ^ 48) {g : Int → List UInt8}
    (hlt : ∀ a a', 0 ≤ a → a < a' → a' < b → ∀ s t, Bytes.order (g a ++ s) (g a' ++ t) = .lt)
    (hgt : ∀ a a', 0 ≤ a → a < a' → a' < b → ∀ s t, Bytes.order (g a' ++ s) (g a ++ t) = .gt)
    {W : Int → Array UInt8} {hid : Array UInt8} {r : Int} (h0 : 0 ≤ r) (h1 : r < b ^ c) (hW : ∀ k, 0 ≤ k → k < b ^ c → (W k).toList = (figs k b c).flatMap g) (hh : hid.toList = (figs r b c).flatMap g) : Ranked (b ^ c) W hid r where
  lo := h0
  hi := h1
  small := hsm
  cmp := fun k k0 k1 => by
    rcases order_figs hb hlt hgt c k r k0 k1 h0 h1 with ⟨h, e⟩ | ⟨h, e⟩ | ⟨h, e⟩ <;> rw [← hW k k0 k1, ← hh] at e
    · exact .inl ⟨h, cmp_lt e⟩
    · exact .inr (.inl ⟨h, cmp_eq e⟩)
    · exact .inr (.inr ⟨h, cmp_gt e⟩)

/-- the second halving: base 16 -/
theorem ranked16 {c : Nat} (hsm : (256 : Int) ^ c ≤ 2 ^ 48) {r : Int} (h0 : 0 ≤ r) (h1 : r < 256 ^ c) {hid : Array UInt8} (hh : hid = hexU (byteArr (figs r 256 c))) : Ranked (256 ^ c) (fun k => hexU (byteArr (figs k 256 c))) hid r :=
  ranked_of (by decide) hsm g16_lt g16_gt h0 h1 (fun k _ _ => hexU_list _) (by rw [hh]; exact hexU_list _)
end Mine

/-! MMath2 -/
open PySem PySem.W PyProof.Rows PySem.Spec PySem.Calls
set_option maxRecDepth 100000
set_option maxHeartbeats 400000
set_option linter.unusedVariables false
namespace Mine
open PySem.Builtin

/-! the translation table -/
theorem range_get (k : Nat) (h : k < 256) : (((Array.range 256).map (·.toUInt8)) : Array UInt8)[k]? = some k.toUInt8 := by
  simp [h]
theorem tb_spec (p q c : UInt8) : (mkTable #[43, 47] #[p, q]).getD c.toNat c = if c = 47 then q else if c = 43 then p else c := by
  have hc := c.toNat_lt
  have e : mkTable #[43, 47] #[p, q] = (((Array.range 256).map (·.toUInt8)).setIfInBounds 43 p).setIfInBounds 47 q := rfl
  rw [e, Array.getD_eq_getD_getElem?, Array.getElem?_setIfInBounds]
  by_cases h47 : c = 47
  · subst h47
    rw [if_pos (by rfl), if_pos (by simp)]
    simp
  · have n47 : ¬ 47 = c.toNat := fun e => h47 (UInt8.toNat_inj.mp e.symm)
    rw [if_neg n47, if_neg h47, Array.getElem?_setIfInBounds]
    by_cases h43 : c = 43
    · subst h43
      rw [if_pos (by rfl), if_pos (by simp)]
      simp
    · have n43 : ¬ 43 = c.toNat := fun e => h43 (UInt8.toNat_inj.mp e.symm)
      rw [if_neg n43, if_neg h43, range_get _ (by omega)]
      show c.toNat.toUInt8 = c
      simp
/-- the sign of figure j as a byte, with altchars p q -/
noncomputable def faceU (p q : UInt8) (j : Int) : UInt8 := (mkTable #[43, 47] #[p, q]).getD (B64l.getD j.toNat 0).toNat (B64l.getD j.toNat 0)
theorem enc_list (p q : UInt8) (v : Int) (c : Nat) : (enc #[p, q] v c).toList = (figs v 64 c).flatMap fun j => [faceU p q j] := by
  unfold enc translated byteArr
  rw [Array.toList_map, List.map_map, List.map_map, ← List.map_eq_flatMap]
  refine List.map_congr_left fun j _ => ?_
  show (mkTable #[43, 47] #[p, q]).getD ((b64c j).toNat.toUInt8).toNat ((b64c j).toNat.toUInt8) = faceU p q j
  have e : (b64c j).toNat.toUInt8 = B64l.getD j.toNat 0 := by unfold b64c; simp
  rw [e]
  rfl
/-! numbers and figures -/
theorem val_snoc (R : List Int) (d : Int) : val (R ++ [d]) = val R * 64 + d := by unfold val; rw [List.foldl_append]; rfl
theorem figs_snoc (v b : Int) (hb : 0 < b) : ∀ c : Nat, figs v b (c + 1) = figs (v / b) b c ++ [v % b] := by
  intro c
  unfold figs
  rw [List.range_succ, List.map_append]
  refine congr (congrArg _ ?_) ?_
  · refine List.map_congr_left fun k hk => ?_
    have hk' := List.mem_range.mp hk
    show v / b ^ (c + 1 - 1 - k) % b = v / b / b ^ (c - 1 - k) % b
    rw [Int.ediv_ediv_of_nonneg (Int.le_of_lt hb), ← Int.pow_succ']
    have : c + 1 - 1 - k = c - 1 - k + 1 := by omega
    rw [this]
  · show [v / b ^ (c + 1 - 1 - c) % b] = [v % b]
    have : c + 1 - 1 - c = 0 := by omega
    rw [this, Int.pow_zero, Int.ediv_one]
theorem val_figs : ∀ (c : Nat) (R : List Int), R.length = c → (∀ d ∈ R, 0 ≤ d ∧ d < 64) → figs (val R) 64 c = R ∧ 0 ≤ val R ∧ val R < 64 ^ c
  | 0, R, hl, _ => by
    rw [List.length_eq_zero_iff.mp hl]
    exact ⟨rfl, by decide, by decide⟩
  | c + 1, R, hl, hR => by
    obtain ⟨R', d, rfl⟩ : ∃ R' d, R = R' ++ [d] := by
      have hne : R ≠ [] := by intro e; rw [e] at hl; cases hl
      exact ⟨R.dropLast, R.getLast hne, (List.dropLast_concat_getLast hne).symm⟩
    rw [List.length_append, List.length_singleton] at hl
    obtain ⟨h1, h2, h3⟩ := val_figs c R' (by omega) (fun e he => hR e (List.mem_append_left _ he))
    have hd := hR d (List.mem_append_right _ (List.mem_singleton.mpr rfl))
    rw [val_snoc, figs_snoc _ _ (by decide)]
    have e1 : (val R' * 64 + d) / 64 = val R' := by omega
    have e2 : (val R' * 64 + d) % 64 = d := by omega
    rw [e1, e2, h1, Int.pow_succ]
    exact ⟨rfl, by omega, by omega⟩
end Mine

/-! MRise -/
open PySem PySem.W PyProof.Rows PySem.Spec PySem.Calls
set_option maxRecDepth 100000
set_option maxHeartbeats 400000
set_option linter.unusedVariables false
namespace Mine
open PySem.Builtin

noncomputable def lettersL : List Int := [65, 66, 67, 68, 69, 70, 71, 72, 73, 74, 75, 76, 77, 78, 79, 80, 81, 82, 83, 84, 85, 86, 87, 88, 89, 90, 97, 98, 99, 100, 101, 102, 103, 104, 105, 106, 107, 108, 109, 110, 111, 112, 113, 114, 115, 116, 117, 118, 119, 120, 121, 122, 48, 49, 50, 51, 52, 53, 54, 55, 56, 57]
noncomputable def faceL (x y : Int) : List Int := lettersL ++ [x, y]
theorem faceL_len (x y : Int) : (faceL x y).length = 64 := rfl
/-- a pair of altchars as the law draws them -/
structure OkPair (x y : Int) : Prop where
  fx : x ∈ freeL
  fy : y ∈ freeL
  ne : x ≠ y
theorem free_off : ∀ x ∈ freeL, x ∉ lettersL ∧ 0 ≤ x ∧ x < 256 := by decide
theorem letters_nodup : lettersL.Nodup := by decide
theorem letters_in : ∀ a ∈ lettersL, 0 ≤ a ∧ a < 256 := by decide
theorem face_nodup {x y : Int} (h : OkPair x y) : (faceL x y).Nodup := by
  unfold faceL
  rw [List.nodup_append]
  refine ⟨letters_nodup, ?_, ?_⟩
  · simp [h.ne]
  · intro a ha b hb e
    subst e
    rcases List.mem_cons.mp hb with rfl | hb
    · exact (free_off _ h.fx).1 ha
    · rw [List.mem_singleton.mp hb] at ha
      exact (free_off _ h.fy).1 ha
theorem face_in {x y : Int} (h : OkPair x y) : ∀ a ∈ faceL x y, 0 ≤ a ∧ a < 256 := by
  intro a ha
  rcases List.mem_append.mp ha with ha | ha
  · exact letters_in a ha
  · rcases List.mem_cons.mp ha with rfl | ha
    · exact (free_off _ h.fx).2
    · rw [List.mem_singleton.mp ha]; exact (free_off _ h.fy).2
theorem signs_ok (n : Int) : OkPair (sgn1 n) (sgn2 n) := by
  obtain ⟨k, hk⟩ := fmod_fin n
  obtain ⟨j, hj⟩ := fmod_fin9 (n.fdiv 10)
  have e1 : sgn1 n = freeL.getD k.val 0 := by unfold sgn1; rw [hk]
  have e2 : sgn2 n = (othersL (freeL.getD k.val 0)).getD j.val 0 := by unfold sgn2; rw [e1, hj]
  have all : ∀ (k : Fin 10) (j : Fin 9), freeL.getD k.val 0 ∈ freeL ∧ (othersL (freeL.getD k.val 0)).getD j.val 0 ∈ freeL ∧ freeL.getD k.val 0 ≠ (othersL (freeL.getD k.val 0)).getD j.val 0 := by decide +kernel
  have := all k j
  rw [e1, e2]
  exact ⟨this.1, this.2.1, this.2.2⟩

/-- the sign of a figure, as a byte and as an int -/
theorem face_u {x y : Int} (h : OkPair x y) {j : Int} (h0 : 0 ≤ j) (h1 : j < 64) : faceU x.toNat.toUInt8 y.toNat.toUInt8 j = ((faceL x y).getD j.toNat 0).toNat.toUInt8 := by
  unfold faceU
  rw [tb_spec]
  have key : ∀ k : Fin 62, (B64l.getD k.val 0) ≠ 47 ∧ (B64l.getD k.val 0) ≠ 43 ∧ B64l.getD k.val 0 = (lettersL.getD k.val 0).toNat.toUInt8 := by decide +kernel
  by_cases hj : j.toNat < 62
  · have q := key ⟨j.toNat, hj⟩
    rw [if_neg q.1, if_neg q.2.1]
    have e : (faceL x y).getD j.toNat 0 = lettersL.getD j.toNat 0 := by
      unfold faceL
      rw [List.getD_eq_getElem?_getD, List.getD_eq_getElem?_getD, List.getElem?_append_left (by exact hj)]
    rw [e]
    exact q.2.2
  · have hj2 : j.toNat = 62 ∨ j.toNat = 63 := by omega
    rcases hj2 with e | e
    · rw [e]
      have e1 : B64l.getD 62 0 = 43 := by decide
      rw [e1, if_neg (by decide), if_pos rfl]
      rfl
    · rw [e]
      have e1 : B64l.getD 63 0 = 47 := by decide
      rw [e1, if_pos rfl]
      rfl

/-- what rising is: S the sorted face, rs the places of S's octets in the face -/
structure Rises (x y : Int) (S rs : List Int) : Prop where
  perm : S.Perm (faceL x y)
  sorted : S.Pairwise (· ≤ ·)
  places : rs = S.map fun s => (((faceL x y).idxOf s : Nat) : Int)
section
variable {x y : Int} {S rs : List Int}
theorem Rises.len (R : Rises x y S rs) : S.length = 64 := R.perm.length_eq
theorem Rises.len' (R : Rises x y S rs) : rs.length = 64 := by rw [R.places, List.length_map, R.len]
theorem Rises.strict (R : Rises x y S rs) (h : OkPair x y) : S.Pairwise (· < ·) := by
  have hn : S.Nodup := R.perm.nodup_iff.mpr (face_nodup h)
  have := List.Pairwise.and R.sorted hn
  exact this.imp fun ⟨a, b⟩ => by omega
theorem getD_get {l : List Int} {i : Nat} (h : i < l.length) : l.getD i 0 = l[i] := by simp [h]
theorem Rises.at (R : Rises x y S rs) (h : OkPair x y) {d : Nat} (hd : d < 64) : 0 ≤ rs.getD d 0 ∧ rs.getD d 0 < 64 ∧ (faceL x y).getD (rs.getD d 0).toNat 0 = S.getD d 0 := by
  have hS := R.len
  have e : rs.getD d 0 = (((faceL x y).idxOf (S.getD d 0) : Nat) : Int) := by
    rw [getD_get (by rw [R.len']; exact hd), getD_get (by rw [hS]; exact hd)]
    simp [R.places]
  have hm : S.getD d 0 ∈ faceL x y := by
    rw [getD_get (by rw [hS]; exact hd)]
    exact R.perm.mem_iff.mp (List.getElem_mem _)
  have hlt := List.idxOf_lt_length_of_mem hm
  have hl := faceL_len x y
  rw [e]
  refine ⟨by omega, by omega, ?_⟩
  rw [Int.toNat_natCast, getD_get hlt, List.getElem_idxOf]
theorem Rises.back (R : Rises x y S rs) (h : OkPair x y) {j : Int} (h0 : 0 ≤ j) (h1 : j < 64) : j ∈ rs ∧ rs.idxOf j < 64 ∧ rs.getD (rs.idxOf j) 0 = j := by
  have hm : j ∈ rs := by
    rw [R.places, List.mem_map]
    have hlt : j.toNat < (faceL x y).length := by rw [faceL_len]; omega
    refine ⟨(faceL x y)[j.toNat], R.perm.mem_iff.mpr (List.getElem_mem _), ?_⟩
    rw [List.Nodup.idxOf_getElem (face_nodup h)]
    omega
  have hlt := List.idxOf_lt_length_of_mem hm
  refine ⟨hm, by rw [R.len'] at hlt; exact hlt, ?_⟩
  rw [getD_get hlt, List.getElem_idxOf]
end

/-! base 64 -/
noncomputable def gS (S : List Int) (d : Int) : List UInt8 := [(S.getD d.toNat 0).toNat.toUInt8]
section
variable {x y : Int} {S rs : List Int}
theorem Rises.lt (R : Rises x y S rs) (h : OkPair x y) {a a' : Int} (h0 : 0 ≤ a) (hl : a < a') (h1 : a' < 64) : (S.getD a.toNat 0).toNat.toUInt8 < (S.getD a'.toNat 0).toNat.toUInt8 := by
  have hS := R.len
  have ha : a.toNat < S.length := by omega
  have ha' : a'.toNat < S.length := by omega
  rw [getD_get ha, getD_get ha']
  have s := List.pairwise_iff_getElem.mp (R.strict h) a.toNat a'.toNat ha ha' (by omega)
  have b := face_in h _ (R.perm.mem_iff.mp (List.getElem_mem ha))
  have b' := face_in h _ (R.perm.mem_iff.mp (List.getElem_mem ha'))
  rw [UInt8.lt_iff_toNat_lt, byte_nat b.1 b.2, byte_nat b'.1 b'.2]
  omega
theorem flat_single {α : Type} (l : List Int) (f : Int → α) : (l.flatMap fun j => [f j]) = l.map f := by
  induction l with
  | nil => rfl
  | cons a r ih => rw [List.flatMap_cons, ih]; rfl
/-- the writing of a place -/
noncomputable def W64 (x y : Int) (rs : List Int) (c : Nat) (k : Int) : Array UInt8 := enc #[x.toNat.toUInt8, y.toNat.toUInt8] (val ((figs k 64 c).map fun d => rs.getD d.toNat 0)) c
/-- the place of the hidden row -/
noncomputable def dueOf (rs : List Int) (c : Nat) (v : Int) : Int := val ((figs v 64 c).map fun j => ((rs.idxOf j : Nat) : Int))
theorem due_in (R : Rises x y S rs) (h : OkPair x y) (c : Nat) (v : Int) : figs (dueOf rs c v) 64 c = ((figs v 64 c).map fun j => ((rs.idxOf j : Nat) : Int)) ∧ 0 ≤ dueOf rs c v ∧ dueOf rs c v < 64 ^ c := by
  refine val_figs c _ (by rw [List.length_map, figs_len]) fun d hd => ?_
  obtain ⟨j, hj, rfl⟩ := List.mem_map.mp hd
  have hb := figs_in v 64 (by decide) c j hj
  have := (R.back h hb.1 hb.2).2.1
  omega
theorem ranked64 (R : Rises x y S rs) (h : OkPair x y) {c : Nat} (hsm : (64 : Int) ^ c ≤ 2 ^ 48) (v : Int) :
    Ranked (64 ^ c) (W64 x y rs c) (enc #[x.toNat.toUInt8, y.toNat.toUInt8] v c) (dueOf rs c v) := by
  obtain ⟨d1, d2, d3⟩ := due_in R h c v
  refine ranked_of (g := gS S) (by decide) hsm (fun a a' h0 hl h1 s t => order_lt (R.lt h h0 hl h1) _ _) (fun a a' h0 hl h1 s t => order_gt (R.lt h h0 hl h1) _ _) d2 d3 (fun k k0 k1 => ?_) ?_
  · unfold W64
    have hv := val_figs c ((figs k 64 c).map fun d => rs.getD d.toNat 0) (by rw [List.length_map, figs_len]) fun d hd => by
      obtain ⟨j, hj, rfl⟩ := List.mem_map.mp hd
      have hb := figs_in k 64 (by decide) c j hj
      have := R.at h (d := j.toNat) (by omega)
      exact ⟨this.1, this.2.1⟩
    rw [enc_list, hv.1, flat_single, List.map_map]
    unfold gS
    rw [flat_single]
    refine List.map_congr_left fun d hd => ?_
    have hb := figs_in k 64 (by decide) c d hd
    have q := R.at h (d := d.toNat) (by omega)
    show faceU _ _ (rs.getD d.toNat 0) = _
    rw [face_u h q.1 q.2.1, q.2.2]
  · rw [enc_list, d1, flat_single]
    unfold gS
    rw [flat_single, List.map_map]
    refine List.map_congr_left fun j hj => ?_
    have hb := figs_in v 64 (by decide) c j hj
    have q := R.back h hb.1 hb.2
    have q2 := R.at h q.2.1
    show _ = (S.getD (((rs.idxOf j : Nat) : Int)).toNat 0).toNat.toUInt8
    rw [Int.toNat_natCast, ← q2.2.2, q.2.2, face_u h hb.1 hb.2]
end
end Mine

/-! MIdx -/
open PySem PySem.W PyProof.Rows PySem.Spec PySem.Calls
set_option maxRecDepth 100000
set_option maxHeartbeats 1000000
set_option linter.unusedVariables false
namespace Mine
open PySem.Builtin

theorem look_int_buffer : typeLookup (.type "int") "__buffer__" = pure none := by rw [typeLookup_type, builtinLookup_eq_fast]; kernel_rfl
theorem special_int {k : Int} {u : Tok} {name : PySem.Str} {r : Option Value} (h : typeLookup (.type "int") name = pure r) : specialOf (.int k u) name = pure r := by
  have e : specialOf (.int k u) name = typeLookup (.type "int") name := rfl
  rw [e, h]
theorem buffer_int {id : String} {k : Int} {u : Tok} : Bytes.buffer? id (.int k u) = pure none := by
  unfold Bytes.buffer?
  rw [special_int look_int_buffer]
  rfl
theorem find_one (b : List UInt8) (c : UInt8) (hm : c ∈ b) : Bytes.find? b.toArray #[c] 0 b.toArray.size = some (b.idxOf c) := by
  unfold Bytes.find?
  have hlt := List.idxOf_lt_length_of_mem hm
  have e1 : b.toArray.size + 1 - (0 + (#[c] : Array UInt8).size) = b.length := by simp
  rw [e1]
  have e2 : (List.range b.length).map (· + 0) = List.range b.length := by simp
  rw [e2, List.find?_range_eq_some]
  have one : ∀ i (hi : i < b.length), b.toArray.extract i (i + (#[c] : Array UInt8).size) = #[b[i]] := by
    intro i hi
    apply Array.ext
    · simp; omega
    · intro j h1 h2
      have : j = 0 := by simp at h2; omega
      subst this
      simp
  refine ⟨?_, List.mem_range.mpr hlt, fun j hj => ?_⟩
  · rw [one _ hlt, List.getElem_idxOf]
    simp
  · have hj' : j < b.length := Nat.lt_trans hj hlt
    rw [one _ hj']
    have := List.not_of_lt_findIdx (p := (· == c)) hj
    simpa using this
theorem meets_index {b : Array UInt8} {t u : Tok} {k : Int} {i : Nat} (h0 : 0 ≤ k) (h1 : k < 256) (hi : Bytes.find? b #[k.toNat.toUInt8] 0 b.size = some i) :
    Meets («bytes.index» ⟨[.bytes b t, .int k u], []⟩) (fun _ R s => ∀ t' n, R (.ok (.ret (.int i t'))) { s with toks := n }) := by
  refine .of_wp fun prog w A R s hS => ?_
  unfold «bytes.index» Bytes.searchM Bytes.searchArgs
  dsimp only
  refine wpAny_bind (wpAny_bind (m := selfAndSome _ _ _ _ _) (wpAny_pure ?_))
  refine wpAny_bind (m := Bytes.bound? none) (wpAny_pure ?_)
  refine wpAny_bind (m := Bytes.bound? none) (wpAny_pure ?_)
  show wpAny _ _ (Bytes.buffer? "bytes.index" (.int k u) >>= fun r => _) _ _ _
  rw [buffer_int]
  refine wpAny_bind (wpAny_pure ?_)
  show wpAny _ _ (specialOf (.int k u) (PySem.Str.ofString "__index__") >>= fun r => _) _ _ _
  rw [special_int F.slot_int_index.lookup]
  refine wpAny_bind (wpAny_pure ?_)
  rw [if_neg (by decide)]
  refine wpAny_bind (m := Bytes.indexHeld [.bytes b t] (.int k u)) (wpAny_pure ?_)
  rw [if_neg (by simp; omega)]
  refine wpAny_bind (wpAny_pure ?_)
  refine wpAny_bind (m := Bytes.payload (.bytes b t)) (wpAny_pure ?_)
  refine wpAny_pure ?_
  dsimp only
  have hw : Bytes.window b.size none none = (0, (b.size : Int)) := by
    unfold Bytes.window
    simp
    omega
  have hpos : 1 ≤ b.size := by
    rcases Nat.eq_zero_or_pos b.size with e | e
    · exfalso
      unfold Bytes.find? at hi
      rw [e] at hi
      simp at hi
    · exact e
  have hf : (if (Bytes.window b.size none none).2 - (Bytes.window b.size none none).1 < ((#[k.toNat.toUInt8] : Array UInt8).size : Int) then (none : Option (Nat × Nat)) else some ((Bytes.window b.size none none).1.toNat, (Bytes.window b.size none none).2.toNat)) = some (0, b.size) := by
    rw [hw]
    dsimp only
    rw [if_neg (by simp; omega)]
    simp
  rw [hf]
  show wpAny _ _ (match Bytes.find? b #[k.toNat.toUInt8] 0 b.size with | some i => retInt i | none => _) _ _ _
  rw [hi]
  exact wpAny_bind (wpAny_mkInt (wpAny_pure ⟨_, rfl, hS _ _⟩))
theorem bInts_idx (b : List UInt8) (c : UInt8) : (KBw.bInts b.toArray).idxOf ((c.toNat : Nat) : Int) = b.idxOf c := by
  show (b.map fun c => ((c.toNat : Nat) : Int)).idxOf _ = _
  induction b with
  | nil => rfl
  | cons a r ih =>
    rw [List.map_cons, List.idxOf_cons, List.idxOf_cons, ih]
    have : (((a.toNat : Nat) : Int) == ((c.toNat : Nat) : Int)) = (a == c) := by
      rw [Bool.eq_iff_iff]
      simp only [beq_iff_eq]
      exact ⟨fun h => UInt8.toNat_inj.mp (Int.ofNat.inj h), fun h => by rw [h]⟩
    rw [this]
section
variable {prog : Program} {w : World} {A : Around} {E : Value → Shared → Prop} {s : Shared}
/-- b.index(k) where k is one of b's octets -/
theorem call_index {b : Array UInt8} {t u : Tok} {k : Int} {ns : List Int} {Q : Value → Shared → Prop} (hb : KBw.bInts b = ns) (hm : k ∈ ns) (h : ∀ t' n, Q (.int ((ns.idxOf k : Nat) : Int) t') { s with toks := n }) :
    wpAny (model prog w) A (call (.builtin "bytes.index") [.bytes b t, .int k u]) Q E s := by
  obtain ⟨l⟩ := b
  have hin := KBw.ints_in (b := ⟨l⟩) (k := k) (by rw [hb]; exact hm)
  have hmem : k ∈ l.map fun c => ((c.toNat : Nat) : Int) := by rw [← hb] at hm; exact hm
  obtain ⟨c, hc, rfl⟩ := List.mem_map.mp hmem
  have e : (((c.toNat : Nat) : Int)).toNat.toUInt8 = c := by simp
  have hf := find_one l c hc
  refine call_meets slot_bytes_index (typeIs_bytes _ _ _) entry_bytes_index (args_bytes_index _ _) (meets_index (i := l.idxOf c) hin.1 hin.2 (by rw [e]; exact hf)) fun t' n => ?_
  have := h t' n
  rw [← hb, bInts_idx l c] at this
  exact this
end
end Mine

/-! MCol -/
open PySem PySem.W PyProof.Rows PySem.Spec PySem.Calls
set_option maxRecDepth 100000
set_option maxHeartbeats 1000000
set_option linter.unusedVariables false
namespace Mine
theorem bytes_len_look : typeLookup (.type "bytes") "__len__" = pure (some (.builtin "bytes.__len__")) := by rw [typeLookup_type, builtinLookup_eq_fast]; kernel_rfl
section
variable {prog : Program} {w : World} {A : Around} {E : Value → Shared → Prop} {s : Shared}
/-- the items of a bytes, collected into a list -/
theorem collect_bytes {Q : List Value → Shared → Prop} (hh : A.handled = none) (x : Array UInt8) (t : Tok)
    (hQ : ∀ s' acc, (∀ b o, s.heap.get? b = some o → s'.heap.get? b = some o) → s'.gens = s.gens → s'.drawn = s.drawn → s'.os = s.os → ItemsOf (fun i v => ∃ c u, x[i]? = some c ∧ v = .int (c.toNat : Int) u) acc x.size → Q acc.toList s') (hn : x.size ≤ sizeLine) :
    wpAny (model prog w) A (collect (.bytes x t)) Q E s := by
  unfold collect
  refine wpAny_bind (wpAny_runValue (codeAny_builtin F.entry_proto_collect ?_))
  rw [Around.under_plainId F.plain_proto_collect _]
  show wpAny _ A.in1 (newList [] >>= fun l => again (.builtin "list.__iadd__" ⟨[l, .bytes x t], []⟩)) _ _ s
  refine wpAny_bind (wpAny_newObj_type ?_)
  refine wpAny_pure ⟨plainId_quiet F.plain_list_iadd _, codeAny_builtin F.entry_list_iadd ?_⟩
  rw [Around.under_plainId F.plain_list_iadd _]
  show wpAny _ A.in1 (Builtin.List.listExtendWith (.ref s.heap.objs.size) (.bytes x t) (.ref s.heap.objs.size)) _ _ _
  unfold Builtin.List.listExtendWith
  refine wpAny_bind (wpAny_typeOf (T := "bytes") (v := .bytes x t) rfl ?_)
  have h1 : Builtin.List.listSameRef (.ref s.heap.objs.size) (.bytes x t) = false := rfl
  have h2 : (Value.type "bytes" == Value.type "list") = false := by decide
  have h3 : (Value.type "bytes" == Value.type "tuple") = false := by decide
  simp only [h1, h2, h3, Bool.or_false, Bool.false_eq_true, if_false]
  refine wpAny_bind (KBw.pyIter_bytes ?_)
  refine wpAny_bind (wpAny_holding ?_)
  unfold Builtin.List.listLengthHint
  refine wpAny_bind (wpAny_specialOf (T := "bytes") (v := .bytes x t) rfl bytes_len_look ?_)
  wp_delta
  refine wpAny_bind (wpAny_isInstance (T := "bytes") (v := .bytes x t) (b := true) rfl (by rw [isSubtype_type]; kernel_rfl) ?_)
  show wpAny _ A.in1 (typeOf (Value.bytes x t) >>= _) _ _ _
  refine wpAny_bind (wpAny_typeOf (T := "bytes") (v := .bytes x t) rfl ?_)
  refine wpAny_pure ?_
  rw [if_neg (by decide)]
  dsimp only
  generalize hH : s.heap.push { cls := .type "list", data := .seq ([] : List Value).toArray } = H at ⊢
  have hHs : H.objs.size = s.heap.objs.size + 1 := by rw [← hH, Heap.size_push]
  have hSf : s.heap.objs.size ∉ [H.objs.size] := fun hm => by rw [List.mem_singleton.mp hm] at hHs; exact absurd hHs (Nat.ne_of_lt (Nat.lt_succ_self _))
  have hS : (H.push { cls := .type "bytes_iterator", data := .fields #[.bytes x t, .int 0 0] }).get? s.heap.objs.size = some { cls := .type "list", data := .seq ([] : List Value).toArray } := Heap.get?_push_of_some _ (hH ▸ Heap.get?_push_size _ rfl)
  refine wpAny_pure ⟨plainId_quiet F.plain_extend_loop _, codeAny_extend_loopS (KBw.walks (A := A.in1) hh H.objs.size x t).toS hn _ hSf _ x.size 0 _ _ _ rfl (Nat.zero_le _) ⟨_, Heap.get?_push_size _ rfl, rfl, rfl⟩ hS (ItemsOf.nil _) fun s' acc' c' hm hS' hacc => ?_⟩
  show wpAny _ A (load s.heap.objs.size >>= _) _ _ s'
  refine wpAny_bind (wpAny_load hS' ?_)
  refine wpAny_pure (hQ s' acc' (fun b ob e => hm.heap b ob (fun hb => ?_) (Heap.get?_push_of_some _ (hH ▸ Heap.get?_push_of_some _ e))) hm.gens hm.drawn hm.os hacc)
  have hlt := Heap.lt_size e
  rcases List.mem_cons.mp hb with h | h
  · exact absurd hlt (h ▸ Nat.lt_irrefl _)
  · rw [List.mem_singleton.mp h, hHs] at hlt; exact absurd hlt (Nat.not_lt.mpr (Nat.le_succ _))
end
end Mine

/-! MEv -/
open PySem PySem.W PyProof.Rows PySem.Spec PySem.Calls
set_option maxRecDepth 100000
set_option maxHeartbeats 1000000
set_option linter.unusedVariables false
namespace Mine
/-- a tree of rules, asks and comparisons of ints, run -/
noncomputable def ev {α : Type} (σ : Setting) (m : Sem α) : Option α :=
  Sem.rec (motive := fun _ => Option α) (fun a => some a) (fun _ => none) (fun _ => none) (fun _ => none) (fun _ _ ih => ih ()) (fun _ _ _ => none) (fun _ _ _ _ => none) (fun _ _ _ _ _ => none)
    (fun _ _ _ => none) (fun _ _ _ => none) (fun _ _ _ => none) (fun _ _ _ => none) (fun _ _ => none) (fun _ ih => ih σ) (fun _ _ _ _ => none) (fun _ _ _ _ => none)
    (fun c h _ _ _ ih => match c, h with
      | .call (.builtin id) ⟨[.int a _, .int b _], []⟩, none => if id = "int.__lt__" then ih (.ok (.ret (.bool (decide (a < b))))) else none
      | _, _ => none)
    (fun _ _ _ => none) (fun _ _ _ => none) (fun _ _ _ => none) (fun _ _ _ _ _ => none) (fun _ _ _ _ _ => none) (fun _ _ => none) (fun _ _ _ => none) (fun _ _ => none) (fun _ _ _ _ _ _ => none) m

theorem lt_code {prog : Program} {w : World} {Γ : PySem.Ctx} {A : Around} (hΓ : Γ.In A) {p : Pos} {s : Shared} {a b : Int} {t u : Tok} {R : Result → Shared → Prop} (h : R (.ok (.ret (.bool (decide (a < b))))) s) :
    wpCode (model prog w) (Γ.enter (.call (.builtin "int.__lt__") ⟨[.int a t, .int b u], []⟩) none p) R p s := by
  have q := call_int_lt (prog := prog) (w := w) (A := A) (E := fun _ _ => False) (s := s) (a := a) (b := b) (t := t) (u := u) (Q := fun v s' => v = .bool (decide (a < b)) ∧ s' = s) ⟨rfl, rfl⟩ Γ p hΓ
  have q' : wpCode (model prog w) (Γ.enter (.call (.builtin "int.__lt__") ⟨[.int a t, .int b u], []⟩) none p) _ p s := q
  refine wpCode_mono (fun r s' hr => ?_) q'
  rcases r with e | f
  · exact (hr : False).elim
  · cases f with
    | ret v =>
      obtain ⟨h1, h2⟩ := (hr : v = .bool (decide (a < b)) ∧ s' = s)
      rw [h1, h2]; exact h
    | _ => exact (hr : False).elim

theorem ev_sound {α : Type} {prog : Program} {w : World} {A : Around} {E : Value → Shared → Prop} {s : Shared} {Q : α → Shared → Prop} {m : Sem α} {a : α} (h : ev ⟨prog, w.params⟩ m = some a) (hQ : Q a s) : wpAny (model prog w) A m Q E s := by
  intro Γ p hΓ
  induction m with
  | pure x => have e : some x = some a := h; cases e; exact hQ
  | rule t k ih => exact ih () h
  | ask k ih => exact ih ⟨prog, w.params⟩ h
  | call c hd g l k ih =>
    revert h
    unfold ev
    dsimp only
    intro h
    split at h
    · rename_i id x t y u
      split at h
      · rename_i hid
        subst hid
        show wpCode _ _ _ _ _
        exact lt_code hΓ (ih _ h)
      · cases h
    · cases h
  | _ => cases h
end Mine

/-! MSrt -/
open PySem PySem.W PyProof.Rows PySem.Spec PySem.Calls
set_option maxRecDepth 100000
set_option maxHeartbeats 1000000
set_option linter.unusedVariables false
namespace Mine
section
variable {prog : Program} {w : World} {A : Around} {E : Value → Shared → Prop} {s : Shared}
theorem wpS_ev {α : Type} {m : StateT SortSt Sem α} {st st' : SortSt} {a : α} {Q : α → SortSt → Prop} (h : ev ⟨prog, w.params⟩ (m.run st) = some (a, st')) (hQ : Q a st') : wpS (model prog w) A E s m Q st :=
  ev_sound h ⟨rfl, hQ⟩
noncomputable abbrev stOf (a : Array Keyed) (p : Array (Nat × Nat × Nat)) (g : Nat) : SortSt := SortSt.mk' oneType' a p g none
theorem minRun64 : minRun' 64 64 0 = 32 := by decide +kernel
/-- the sort of sixty-four items that make two runs of 52 and 12 -/
theorem sort64 {a₀ a₁ a₂ : Array Keyed} {n g : Nat} {Q : Unit → SortSt → Prop} (h0 : a₀.size = 64) (hn : n < 32)
    (hA : ev ⟨prog, w.params⟩ ((countRun' 0 64).run (stOf a₀ #[] 7)) = some (some 52, stOf a₀ #[] 7))
    (hB : ev ⟨prog, w.params⟩ ((countRun' 52 12).run (stOf a₀ #[(0, 52, 0)] 7)) = some (some n, stOf a₀ #[(0, 52, 0)] 7))
    (hC : ev ⟨prog, w.params⟩ ((binarySort' 52 12 n).run (stOf a₀ #[(0, 52, 0)] 7)) = some (true, stOf a₁ #[(0, 52, 0)] 7))
    (hD : ev ⟨prog, w.params⟩ ((mergeAt' 0).run (stOf a₁ #[(0, 52, power' 64 52 116 64), (52, 12, 0)] 7)) = some (true, stOf a₂ #[(0, 64, power' 64 52 116 64)] g))
    (h : Q () (stOf a₂ #[(0, 64, power' 64 52 116 64)] g)) : wpS (model prog w) A E s sortRuns' Q (stOf a₀ #[] 7) := by
  rw [sortRuns'_eq]
  refine wpS_bind (wpS_get ?_)
  have hs : (arrOf (stOf a₀ #[] 7)).size = 64 := h0
  rw [hs]
  dsimp only
  rw [minRun64]
  refine wpS_bind (wpS_mono (wpS_forRange
    (I := fun i c st => (i = 0 ∧ c = (none, 0) ∧ st = stOf a₀ #[] 7) ∨ (i = 1 ∧ c = (none, 52) ∧ st = stOf a₀ #[(0, 52, 0)] 7) ∨ (2 ≤ i ∧ c = (none, 64) ∧ st = stOf a₁ #[(0, 52, power' 64 52 116 64), (52, 12, 0)] 7))
    (Q := fun c st => c = (none, 64) ∧ st = stOf a₁ #[(0, 52, power' 64 52 116 64), (52, 12, 0)] 7) ?step ?fin (.inl ⟨rfl, rfl, rfl⟩)) ?post)
  case fin =>
    rintro c st (⟨hx, _, _⟩ | ⟨hx, _, _⟩ | ⟨_, hc, hD⟩)
    · omega
    · omega
    · exact ⟨hc, hD⟩
  case step =>
    rintro i c st _ hx (⟨rfl, rfl, rfl⟩ | ⟨rfl, rfl, rfl⟩ | ⟨hi, rfl, rfl⟩)
    · dsimp only
      rw [if_neg (by decide)]
      refine wpS_bind (wpS_ev hA ?_)
      dsimp only
      rw [if_neg (by decide)]
      refine wpS_bind (wpS_get ?_)
      have hb : (pendingOf (stOf a₀ #[] 7)).back? = none := rfl
      rw [hb]
      dsimp only
      exact wpS_bind (wpS_modify (wpS_pure (.inr (.inl ⟨rfl, rfl, rfl⟩))))
    · dsimp only
      rw [if_neg (by decide)]
      refine wpS_bind (wpS_ev hB ?_)
      dsimp only
      rw [if_pos hn]
      refine wpS_bind (wpS_lift (wpAny_rule ⟨rfl, ?_⟩))
      refine wpS_bind (wpS_ev hC ?_)
      simp only [Bool.not_true, Bool.false_eq_true, if_false]
      refine wpS_bind (wpS_get ?_)
      have hb : (pendingOf (stOf a₁ #[(0, 52, 0)] 7)).back? = some (0, 52, 0) := rfl
      rw [hb]
      dsimp only
      refine wpS_bind (wpS_mono (wpS_forRange (I := fun _ c st => c = (none, ()) ∧ st = stOf a₁ #[(0, 52, 0)] 7) (Q := fun c st => c = (none, ()) ∧ st = stOf a₁ #[(0, 52, 0)] 7) ?_ (fun _ _ hh => hh) ⟨rfl, rfl⟩) ?_)
      · rintro i c st _ _ ⟨rfl, rfl⟩
        refine wpS_bind (wpS_get ?_)
        exact wpS_pure ⟨rfl, rfl⟩
      · rintro c st ⟨rfl, rfl⟩
        dsimp only
        refine wpS_bind (wpS_modify ?_)
        exact wpS_bind (wpS_modify (wpS_pure (.inr (.inr ⟨by omega, rfl, rfl⟩))))
    · dsimp only
      rw [if_pos (by decide)]
      exact wpS_pure ⟨rfl, rfl⟩
  case post =>
    rintro c st ⟨rfl, rfl⟩
    dsimp only
    refine wpS_bind (wpS_mono (wpS_forRange (I := fun i c st => (i = 0 ∧ c = (none, ()) ∧ st = stOf a₁ #[(0, 52, power' 64 52 116 64), (52, 12, 0)] 7) ∨ (1 ≤ i ∧ c = (none, ()) ∧ st = stOf a₂ #[(0, 64, power' 64 52 116 64)] g)) (Q := fun c st => c = (none, ()) ∧ st = stOf a₂ #[(0, 64, power' 64 52 116 64)] g) ?_ ?_ (.inl ⟨rfl, rfl, rfl⟩)) ?_)
    · rintro i c st _ _ (⟨rfl, rfl, rfl⟩ | ⟨hi, rfl, rfl⟩)
      · refine wpS_bind (wpS_get ?_)
        rw [if_neg (by show ¬ (2 ≤ 1); decide)]
        refine wpS_bind (wpS_ev (st' := stOf a₂ #[(0, 64, power' 64 52 116 64)] g) (a := true) hD ?_)
        simp only [Bool.not_true, Bool.false_eq_true, if_false]
        exact wpS_pure (.inr ⟨by omega, rfl, rfl⟩)
      · refine wpS_bind (wpS_get ?_)
        rw [if_pos (by show 1 ≤ 1; decide)]
        exact wpS_pure ⟨rfl, rfl⟩
    · rintro c st (⟨hx, _, _⟩ | ⟨_, hc, hD⟩)
      · omega
      · exact ⟨hc, hD⟩
    · rintro c st ⟨rfl, rfl⟩
      exact wpS_pure h
end
end Mine

/-! MEvO -/
open PySem PySem.W PyProof.Rows PySem.Spec PySem.Calls
set_option maxRecDepth 100000
set_option maxHeartbeats 1000000
set_option linter.unusedVariables false
namespace Mine
abbrev Asked := List (Int × Int × Bool)
/-- as ev; what a comparison says is read off a row of answers, and the comparison is written down -/
noncomputable def evO {α : Type} (σ : Setting) (m : Sem α) : List Bool → Option (α × Asked) :=
  Sem.rec (motive := fun _ => List Bool → Option (α × Asked)) (fun a _ => some (a, [])) (fun _ _ => none) (fun _ _ => none) (fun _ _ => none) (fun _ _ ih => ih ()) (fun _ _ _ _ => none) (fun _ _ _ _ _ => none) (fun _ _ _ _ _ _ => none)
    (fun _ _ _ _ => none) (fun _ _ _ _ => none) (fun _ _ _ _ => none) (fun _ _ _ _ => none) (fun _ _ _ => none) (fun _ ih => ih σ) (fun _ _ _ _ _ => none) (fun _ _ _ _ _ => none)
    (fun c h _ _ _ ih bits => match c, h, bits with
      | .call (.builtin id) ⟨[.int a _, .int b _], []⟩, none, bit :: rest => if id = "int.__lt__" then (match ih (.ok (.ret (.bool bit))) rest with
        | some (r, cs) => some (r, (a, b, bit) :: cs)
        | none => none) else none
      | _, _, _ => none)
    (fun _ _ _ _ => none) (fun _ _ _ _ => none) (fun _ _ _ _ => none) (fun _ _ _ _ _ _ => none) (fun _ _ _ _ _ _ => none) (fun _ _ _ => none) (fun _ _ _ _ => none) (fun _ _ _ => none) (fun _ _ _ _ _ _ _ => none) m
theorem evO_ev {α : Type} {σ : Setting} {m : Sem α} {bits : List Bool} {a : α} {cs : Asked} (h : evO σ m bits = some (a, cs)) (hc : ∀ c ∈ cs, decide (c.1 < c.2.1) = c.2.2) : ev σ m = some a := by
  induction m generalizing bits cs with
  | pure x => have e : some (x, ([] : Asked)) = some (a, cs) := h; cases e; rfl
  | rule t k ih => exact ih () h hc
  | ask k ih => exact ih σ h hc
  | call c hd g l k ih =>
    revert h
    unfold evO ev
    dsimp only
    intro h
    split at h
    · rename_i id x t y u bit rest
      split at h
      · rename_i hid
        subst hid
        split at h
        · rename_i r cs' hr
          cases h
          have q := ih (.ok (.ret (.bool bit))) (bits := rest) hr (fun c hm => hc c (.tail _ hm))
          have e := hc _ (.head _)
          dsimp only at e
          show (if ("int.__lt__" : String) = "int.__lt__" then ev σ (k (.ok (.ret (.bool (decide (x < y)))))) else none) = some a
          rw [if_pos rfl, e]
          exact q
        · cases h
      · cases h
    · cases h
  | _ => cases h
end Mine

/-! MSrtE -/
open PySem PySem.W PyProof.Rows PySem.Spec PySem.Calls
set_option maxRecDepth 1000000
set_option maxHeartbeats 4000000
set_option linter.unusedVariables false
namespace Mine
noncomputable abbrev kv (a : Int) (t : Tok) : Keyed := (.int a t, .int a t)
noncomputable def P1 (P : Params) (b : Bool) : Params := { P with followText := fun k => if k = "special-get-raises" then b else P.followText k }

noncomputable def lit0 (t : Nat → Tok) (x y : Int) : Array Keyed := #[kv 65 (t 0), kv 66 (t 1), kv 67 (t 2), kv 68 (t 3), kv 69 (t 4), kv 70 (t 5), kv 71 (t 6), kv 72 (t 7), kv 73 (t 8), kv 74 (t 9), kv 75 (t 10), kv 76 (t 11), kv 77 (t 12), kv 78 (t 13), kv 79 (t 14), kv 80 (t 15), kv 81 (t 16), kv 82 (t 17), kv 83 (t 18), kv 84 (t 19), kv 85 (t 20), kv 86 (t 21), kv 87 (t 22), kv 88 (t 23), kv 89 (t 24), kv 90 (t 25), kv 97 (t 26), kv 98 (t 27), kv 99 (t 28), kv 100 (t 29), kv 101 (t 30), kv 102 (t 31), kv 103 (t 32), kv 104 (t 33), kv 105 (t 34), kv 106 (t 35), kv 107 (t 36), kv 108 (t 37), kv 109 (t 38), kv 110 (t 39), kv 111 (t 40), kv 112 (t 41), kv 113 (t 42), kv 114 (t 43), kv 115 (t 44), kv 116 (t 45), kv 117 (t 46), kv 118 (t 47), kv 119 (t 48), kv 120 (t 49), kv 121 (t 50), kv 122 (t 51), kv 48 (t 52), kv 49 (t 53), kv 50 (t 54), kv 51 (t 55), kv 52 (t 56), kv 53 (t 57), kv 54 (t 58), kv 55 (t 59), kv 56 (t 60), kv 57 (t 61), kv x (t 62), kv y (t 63)]
noncomputable def lit1 (t : Nat → Tok) (b0 b1 b2 b3 b4 b5 b6 b7 b8 b9 b10 b11 : Int) : Array Keyed := #[kv 65 (t 0), kv 66 (t 1), kv 67 (t 2), kv 68 (t 3), kv 69 (t 4), kv 70 (t 5), kv 71 (t 6), kv 72 (t 7), kv 73 (t 8), kv 74 (t 9), kv 75 (t 10), kv 76 (t 11), kv 77 (t 12), kv 78 (t 13), kv 79 (t 14), kv 80 (t 15), kv 81 (t 16), kv 82 (t 17), kv 83 (t 18), kv 84 (t 19), kv 85 (t 20), kv 86 (t 21), kv 87 (t 22), kv 88 (t 23), kv 89 (t 24), kv 90 (t 25), kv 97 (t 26), kv 98 (t 27), kv 99 (t 28), kv 100 (t 29), kv 101 (t 30), kv 102 (t 31), kv 103 (t 32), kv 104 (t 33), kv 105 (t 34), kv 106 (t 35), kv 107 (t 36), kv 108 (t 37), kv 109 (t 38), kv 110 (t 39), kv 111 (t 40), kv 112 (t 41), kv 113 (t 42), kv 114 (t 43), kv 115 (t 44), kv 116 (t 45), kv 117 (t 46), kv 118 (t 47), kv 119 (t 48), kv 120 (t 49), kv 121 (t 50), kv 122 (t 51), kv b0 (t 52), kv b1 (t 53), kv b2 (t 54), kv b3 (t 55), kv b4 (t 56), kv b5 (t 57), kv b6 (t 58), kv b7 (t 59), kv b8 (t 60), kv b9 (t 61), kv b10 (t 62), kv b11 (t 63)]
noncomputable def litL (t : Nat → Tok) (l : List (Int × Nat)) : Array Keyed := (l.map fun p => kv p.1 (t p.2)).toArray
noncomputable abbrev pend2 : Array (Nat × Nat × Nat) := #[(0, 52, power' 64 52 116 64), (52, 12, 0)]
noncomputable abbrev pend1 : Array (Nat × Nat × Nat) := #[(0, 64, power' 64 52 116 64)]
theorem phA (prog : Program) (P : Params) (b : Bool) (t : Nat → Tok) (x y : Int) : ev ⟨prog, P1 P b⟩ ((countRun' 0 64).run (stOf (lit0 t x y) #[] 7)) = some (some 52, stOf (lit0 t x y) #[] 7) := by cases b <;> kernel_rfl
theorem run0 (prog : Program) (P : Params) (b : Bool) (t : Nat → Tok) (x y : Int) : evO ⟨prog, P1 P b⟩ ((countRun' 52 12).run (stOf (lit0 t x y) #[(0, 52, 0)] 7)) [false, false, false, false, false, false, false, false, false, true, true] = some ((some 10, stOf (lit0 t x y) #[(0, 52, 0)] 7), [(49, 48, false), (50, 49, false), (51, 50, false), (52, 51, false), (53, 52, false), (54, 53, false), (55, 54, false), (56, 55, false), (57, 56, false), (x, 57, true), (48, 57, true)]) := by cases b <;> kernel_rfl
theorem bin0 (prog : Program) (P : Params) (b : Bool) (t : Nat → Tok) (x y : Int) : evO ⟨prog, P1 P b⟩ ((binarySort' 52 12 10).run (stOf (lit0 t x y) #[(0, 52, 0)] 7)) [true, true, true, true, true, true, true, false] = some ((true, stOf (lit1 (fun i => t (if i < 52 then i else [62, 63, 52, 53, 54, 55, 56, 57, 58, 59, 60, 61].getD (i - 52) 0)) x y 48 49 50 51 52 53 54 55 56 57) #[(0, 52, 0)] 7), [(x, 53, true), (x, 50, true), (x, 49, true), (x, 48, true), (y, 52, true), (y, 49, true), (y, 48, true), (y, x, false)]) := by cases b <;> kernel_rfl
theorem run1 (prog : Program) (P : Params) (b : Bool) (t : Nat → Tok) (x y : Int) : evO ⟨prog, P1 P b⟩ ((countRun' 52 12).run (stOf (lit0 t x y) #[(0, 52, 0)] 7)) [false, false, false, false, false, false, false, false, false, true, true] = some ((some 10, stOf (lit0 t x y) #[(0, 52, 0)] 7), [(49, 48, false), (50, 49, false), (51, 50, false), (52, 51, false), (53, 52, false), (54, 53, false), (55, 54, false), (56, 55, false), (57, 56, false), (x, 57, true), (48, 57, true)]) := by cases b <;> kernel_rfl
theorem bin1 (prog : Program) (P : Params) (b : Bool) (t : Nat → Tok) (x y : Int) : evO ⟨prog, P1 P b⟩ ((binarySort' 52 12 10).run (stOf (lit0 t x y) #[(0, 52, 0)] 7)) [true, true, true, true, false, false, false] = some ((true, stOf (lit1 (fun i => t (if i < 52 then i else [62, 52, 53, 54, 55, 56, 57, 58, 59, 60, 61, 63].getD (i - 52) 0)) x 48 49 50 51 52 53 54 55 56 57 y) #[(0, 52, 0)] 7), [(x, 53, true), (x, 50, true), (x, 49, true), (x, 48, true), (y, 52, false), (y, 55, false), (y, 57, false)]) := by cases b <;> kernel_rfl
theorem run2 (prog : Program) (P : Params) (b : Bool) (t : Nat → Tok) (x y : Int) : evO ⟨prog, P1 P b⟩ ((countRun' 52 12).run (stOf (lit0 t x y) #[(0, 52, 0)] 7)) [false, false, false, false, false, false, false, false, false, true, true] = some ((some 10, stOf (lit0 t x y) #[(0, 52, 0)] 7), [(49, 48, false), (50, 49, false), (51, 50, false), (52, 51, false), (53, 52, false), (54, 53, false), (55, 54, false), (56, 55, false), (57, 56, false), (x, 57, true), (48, 57, true)]) := by cases b <;> kernel_rfl
theorem bin2 (prog : Program) (P : Params) (b : Bool) (t : Nat → Tok) (x y : Int) : evO ⟨prog, P1 P b⟩ ((binarySort' 52 12 10).run (stOf (lit0 t x y) #[(0, 52, 0)] 7)) [true, true, true, true, true, true, true, true] = some ((true, stOf (lit1 (fun i => t (if i < 52 then i else [63, 62, 52, 53, 54, 55, 56, 57, 58, 59, 60, 61].getD (i - 52) 0)) y x 48 49 50 51 52 53 54 55 56 57) #[(0, 52, 0)] 7), [(x, 53, true), (x, 50, true), (x, 49, true), (x, 48, true), (y, 52, true), (y, 49, true), (y, 48, true), (y, x, true)]) := by cases b <;> kernel_rfl
theorem run3 (prog : Program) (P : Params) (b : Bool) (t : Nat → Tok) (x y : Int) : evO ⟨prog, P1 P b⟩ ((countRun' 52 12).run (stOf (lit0 t x y) #[(0, 52, 0)] 7)) [false, false, false, false, false, false, false, false, false, false, true, true] = some ((some 11, stOf (lit0 t x y) #[(0, 52, 0)] 7), [(49, 48, false), (50, 49, false), (51, 50, false), (52, 51, false), (53, 52, false), (54, 53, false), (55, 54, false), (56, 55, false), (57, 56, false), (x, 57, false), (y, x, true), (48, x, true)]) := by cases b <;> kernel_rfl
theorem bin3 (prog : Program) (P : Params) (b : Bool) (t : Nat → Tok) (x y : Int) : evO ⟨prog, P1 P b⟩ ((binarySort' 52 12 11).run (stOf (lit0 t x y) #[(0, 52, 0)] 7)) [true, true, true, true] = some ((true, stOf (lit1 (fun i => t (if i < 52 then i else [63, 52, 53, 54, 55, 56, 57, 58, 59, 60, 61, 62].getD (i - 52) 0)) y 48 49 50 51 52 53 54 55 56 57 x) #[(0, 52, 0)] 7), [(y, 53, true), (y, 50, true), (y, 49, true), (y, 48, true)]) := by cases b <;> kernel_rfl
theorem run4 (prog : Program) (P : Params) (b : Bool) (t : Nat → Tok) (x y : Int) : evO ⟨prog, P1 P b⟩ ((countRun' 52 12).run (stOf (lit0 t x y) #[(0, 52, 0)] 7)) [false, false, false, false, false, false, false, false, false, false, false] = some ((some 12, stOf (lit0 t x y) #[(0, 52, 0)] 7), [(49, 48, false), (50, 49, false), (51, 50, false), (52, 51, false), (53, 52, false), (54, 53, false), (55, 54, false), (56, 55, false), (57, 56, false), (x, 57, false), (y, x, false)]) := by cases b <;> kernel_rfl
theorem bin4 (prog : Program) (P : Params) (b : Bool) (t : Nat → Tok) (x y : Int) : evO ⟨prog, P1 P b⟩ ((binarySort' 52 12 12).run (stOf (lit0 t x y) #[(0, 52, 0)] 7)) [] = some ((true, stOf (lit1 (fun i => t (if i < 52 then i else [52, 53, 54, 55, 56, 57, 58, 59, 60, 61, 62, 63].getD (i - 52) 0)) 48 49 50 51 52 53 54 55 56 57 x y) #[(0, 52, 0)] 7), []) := by cases b <;> kernel_rfl
theorem run5 (prog : Program) (P : Params) (b : Bool) (t : Nat → Tok) (x y : Int) : evO ⟨prog, P1 P b⟩ ((countRun' 52 12).run (stOf (lit0 t x y) #[(0, 52, 0)] 7)) [false, false, false, false, false, false, false, false, false, false, true, true] = some ((some 11, stOf (lit0 t x y) #[(0, 52, 0)] 7), [(49, 48, false), (50, 49, false), (51, 50, false), (52, 51, false), (53, 52, false), (54, 53, false), (55, 54, false), (56, 55, false), (57, 56, false), (x, 57, false), (y, x, true), (48, x, true)]) := by cases b <;> kernel_rfl
theorem bin5 (prog : Program) (P : Params) (b : Bool) (t : Nat → Tok) (x y : Int) : evO ⟨prog, P1 P b⟩ ((binarySort' 52 12 11).run (stOf (lit0 t x y) #[(0, 52, 0)] 7)) [false, false, true, false] = some ((true, stOf (lit1 (fun i => t (if i < 52 then i else [52, 53, 54, 55, 56, 57, 58, 59, 60, 61, 63, 62].getD (i - 52) 0)) 48 49 50 51 52 53 54 55 56 57 y x) #[(0, 52, 0)] 7), [(y, 53, false), (y, 56, false), (y, x, true), (y, 57, false)]) := by cases b <;> kernel_rfl
theorem mrg0 (prog : Program) (P : Params) (b : Bool) (t : Nat → Tok) (b0 b1 b2 b3 b4 b5 b6 b7 b8 b9 b10 b11 : Int) : evO ⟨prog, P1 P b⟩ ((mergeAt' 0).run (stOf (lit1 t b0 b1 b2 b3 b4 b5 b6 b7 b8 b9 b10 b11) pend2 7)) [true, true, true, true, true, true, true, true, true, true, true, true, true, true, true, true, true, true, true] = some ((true, stOf (litL t [(b0, 52), (b1, 53), (b2, 54), (b3, 55), (b4, 56), (b5, 57), (b6, 58), (b7, 59), (b8, 60), (b9, 61), (b10, 62), (b11, 63), (65, 0), (66, 1), (67, 2), (68, 3), (69, 4), (70, 5), (71, 6), (72, 7), (73, 8), (74, 9), (75, 10), (76, 11), (77, 12), (78, 13), (79, 14), (80, 15), (81, 16), (82, 17), (83, 18), (84, 19), (85, 20), (86, 21), (87, 22), (88, 23), (89, 24), (90, 25), (97, 26), (98, 27), (99, 28), (100, 29), (101, 30), (102, 31), (103, 32), (104, 33), (105, 34), (106, 35), (107, 36), (108, 37), (109, 38), (110, 39), (111, 40), (112, 41), (113, 42), (114, 43), (115, 44), (116, 45), (117, 46), (118, 47), (119, 48), (120, 49), (121, 50), (122, 51)]) pend1 7), [(b0, 65, true), (b11, 122, true), (b11, 121, true), (b11, 120, true), (b11, 119, true), (b11, 118, true), (b11, 117, true), (b11, 116, true), (b11, 115, true), (b11, 114, true), (b11, 113, true), (b11, 111, true), (b11, 107, true), (b11, 99, true), (b11, 77, true), (b11, 71, true), (b11, 68, true), (b11, 66, true), (b11, 65, true)]) := by cases b <;> kernel_rfl
theorem mrg1 (prog : Program) (P : Params) (b : Bool) (t : Nat → Tok) (b0 b1 b2 b3 b4 b5 b6 b7 b8 b9 b10 b11 : Int) : evO ⟨prog, P1 P b⟩ ((mergeAt' 0).run (stOf (lit1 t b0 b1 b2 b3 b4 b5 b6 b7 b8 b9 b10 b11) pend2 7)) [true, true, true, true, true, true, true, true, true, true, true, true, true, true, false, false, false, true, false, true, true, true, true, true, true, true, true, true, true] = some ((true, stOf (litL t [(b0, 52), (b1, 53), (b2, 54), (b3, 55), (b4, 56), (b5, 57), (b6, 58), (b7, 59), (b8, 60), (b9, 61), (b10, 62), (65, 0), (66, 1), (67, 2), (68, 3), (69, 4), (70, 5), (71, 6), (72, 7), (73, 8), (74, 9), (75, 10), (76, 11), (77, 12), (78, 13), (79, 14), (80, 15), (81, 16), (82, 17), (83, 18), (84, 19), (85, 20), (86, 21), (87, 22), (88, 23), (89, 24), (90, 25), (b11, 63), (97, 26), (98, 27), (99, 28), (100, 29), (101, 30), (102, 31), (103, 32), (104, 33), (105, 34), (106, 35), (107, 36), (108, 37), (109, 38), (110, 39), (111, 40), (112, 41), (113, 42), (114, 43), (115, 44), (116, 45), (117, 46), (118, 47), (119, 48), (120, 49), (121, 50), (122, 51)]) pend1 6), [(b0, 65, true), (b11, 122, true), (b11, 121, true), (b11, 120, true), (b11, 119, true), (b11, 118, true), (b11, 117, true), (b11, 116, true), (b11, 115, true), (b11, 114, true), (b11, 113, true), (b11, 111, true), (b11, 107, true), (b11, 99, true), (b11, 77, false), (b11, 85, false), (b11, 89, false), (b11, 97, true), (b11, 90, false), (b10, 90, true), (b10, 89, true), (b10, 88, true), (b10, 86, true), (b10, 82, true), (b10, 74, true), (b10, 69, true), (b10, 67, true), (b10, 66, true), (b10, 65, true)]) := by cases b <;> kernel_rfl
theorem mrg2 (prog : Program) (P : Params) (b : Bool) (t : Nat → Tok) (b0 b1 b2 b3 b4 b5 b6 b7 b8 b9 b10 b11 : Int) : evO ⟨prog, P1 P b⟩ ((mergeAt' 0).run (stOf (lit1 t b0 b1 b2 b3 b4 b5 b6 b7 b8 b9 b10 b11) pend2 7)) [true, false, true, true, true, true, true, true, true, true, true, true, true, true, true, true, true, true, true, true] = some ((true, stOf (litL t [(b0, 52), (b1, 53), (b2, 54), (b3, 55), (b4, 56), (b5, 57), (b6, 58), (b7, 59), (b8, 60), (b9, 61), (b10, 62), (65, 0), (66, 1), (67, 2), (68, 3), (69, 4), (70, 5), (71, 6), (72, 7), (73, 8), (74, 9), (75, 10), (76, 11), (77, 12), (78, 13), (79, 14), (80, 15), (81, 16), (82, 17), (83, 18), (84, 19), (85, 20), (86, 21), (87, 22), (88, 23), (89, 24), (90, 25), (97, 26), (98, 27), (99, 28), (100, 29), (101, 30), (102, 31), (103, 32), (104, 33), (105, 34), (106, 35), (107, 36), (108, 37), (109, 38), (110, 39), (111, 40), (112, 41), (113, 42), (114, 43), (115, 44), (116, 45), (117, 46), (118, 47), (119, 48), (120, 49), (121, 50), (122, 51), (b11, 63)]) pend1 7), [(b0, 65, true), (b11, 122, false), (b10, 122, true), (b10, 121, true), (b10, 120, true), (b10, 119, true), (b10, 118, true), (b10, 117, true), (b10, 116, true), (b10, 115, true), (b10, 114, true), (b10, 113, true), (b10, 111, true), (b10, 107, true), (b10, 99, true), (b10, 77, true), (b10, 71, true), (b10, 68, true), (b10, 66, true), (b10, 65, true)]) := by cases b <;> kernel_rfl
theorem mrg3 (prog : Program) (P : Params) (b : Bool) (t : Nat → Tok) (b0 b1 b2 b3 b4 b5 b6 b7 b8 b9 b10 b11 : Int) : evO ⟨prog, P1 P b⟩ ((mergeAt' 0).run (stOf (lit1 t b0 b1 b2 b3 b4 b5 b6 b7 b8 b9 b10 b11) pend2 7)) [true, true, true, true, true, true, true, true, true, true, true, true, true, true, false, false, false, true, false, false, true, true, true, true, true, true, true, true, true, true] = some ((true, stOf (litL t [(b0, 52), (b1, 53), (b2, 54), (b3, 55), (b4, 56), (b5, 57), (b6, 58), (b7, 59), (b8, 60), (b9, 61), (65, 0), (66, 1), (67, 2), (68, 3), (69, 4), (70, 5), (71, 6), (72, 7), (73, 8), (74, 9), (75, 10), (76, 11), (77, 12), (78, 13), (79, 14), (80, 15), (81, 16), (82, 17), (83, 18), (84, 19), (85, 20), (86, 21), (87, 22), (88, 23), (89, 24), (90, 25), (b10, 62), (b11, 63), (97, 26), (98, 27), (99, 28), (100, 29), (101, 30), (102, 31), (103, 32), (104, 33), (105, 34), (106, 35), (107, 36), (108, 37), (109, 38), (110, 39), (111, 40), (112, 41), (113, 42), (114, 43), (115, 44), (116, 45), (117, 46), (118, 47), (119, 48), (120, 49), (121, 50), (122, 51)]) pend1 6), [(b0, 65, true), (b11, 122, true), (b11, 121, true), (b11, 120, true), (b11, 119, true), (b11, 118, true), (b11, 117, true), (b11, 116, true), (b11, 115, true), (b11, 114, true), (b11, 113, true), (b11, 111, true), (b11, 107, true), (b11, 99, true), (b11, 77, false), (b11, 85, false), (b11, 89, false), (b11, 97, true), (b11, 90, false), (b10, 90, false), (b9, 90, true), (b9, 89, true), (b9, 88, true), (b9, 86, true), (b9, 82, true), (b9, 74, true), (b9, 69, true), (b9, 67, true), (b9, 66, true), (b9, 65, true)]) := by cases b <;> kernel_rfl
theorem mrg4 (prog : Program) (P : Params) (b : Bool) (t : Nat → Tok) (b0 b1 b2 b3 b4 b5 b6 b7 b8 b9 b10 b11 : Int) : evO ⟨prog, P1 P b⟩ ((mergeAt' 0).run (stOf (lit1 t b0 b1 b2 b3 b4 b5 b6 b7 b8 b9 b10 b11) pend2 7)) [true, false, true, true, true, true, true, true, true, true, true, true, true, true, true, false, false, false, true, false, true, true, true, true, true, true, true, true, true, true] = some ((true, stOf (litL t [(b0, 52), (b1, 53), (b2, 54), (b3, 55), (b4, 56), (b5, 57), (b6, 58), (b7, 59), (b8, 60), (b9, 61), (65, 0), (66, 1), (67, 2), (68, 3), (69, 4), (70, 5), (71, 6), (72, 7), (73, 8), (74, 9), (75, 10), (76, 11), (77, 12), (78, 13), (79, 14), (80, 15), (81, 16), (82, 17), (83, 18), (84, 19), (85, 20), (86, 21), (87, 22), (88, 23), (89, 24), (90, 25), (b10, 62), (97, 26), (98, 27), (99, 28), (100, 29), (101, 30), (102, 31), (103, 32), (104, 33), (105, 34), (106, 35), (107, 36), (108, 37), (109, 38), (110, 39), (111, 40), (112, 41), (113, 42), (114, 43), (115, 44), (116, 45), (117, 46), (118, 47), (119, 48), (120, 49), (121, 50), (122, 51), (b11, 63)]) pend1 6), [(b0, 65, true), (b11, 122, false), (b10, 122, true), (b10, 121, true), (b10, 120, true), (b10, 119, true), (b10, 118, true), (b10, 117, true), (b10, 116, true), (b10, 115, true), (b10, 114, true), (b10, 113, true), (b10, 111, true), (b10, 107, true), (b10, 99, true), (b10, 77, false), (b10, 85, false), (b10, 89, false), (b10, 97, true), (b10, 90, false), (b9, 90, true), (b9, 89, true), (b9, 88, true), (b9, 86, true), (b9, 82, true), (b9, 74, true), (b9, 69, true), (b9, 67, true), (b9, 66, true), (b9, 65, true)]) := by cases b <;> kernel_rfl
theorem mrg5 (prog : Program) (P : Params) (b : Bool) (t : Nat → Tok) (b0 b1 b2 b3 b4 b5 b6 b7 b8 b9 b10 b11 : Int) : evO ⟨prog, P1 P b⟩ ((mergeAt' 0).run (stOf (lit1 t b0 b1 b2 b3 b4 b5 b6 b7 b8 b9 b10 b11) pend2 7)) [true, false, false, true, true, true, true, true, true, true, true, true, true, true, true, true, true, true, true, true, true, true] = some ((true, stOf (litL t [(b0, 52), (b1, 53), (b2, 54), (b3, 55), (b4, 56), (b5, 57), (b6, 58), (b7, 59), (b8, 60), (b9, 61), (65, 0), (66, 1), (67, 2), (68, 3), (69, 4), (70, 5), (71, 6), (72, 7), (73, 8), (74, 9), (75, 10), (76, 11), (77, 12), (78, 13), (79, 14), (80, 15), (81, 16), (82, 17), (83, 18), (84, 19), (85, 20), (86, 21), (87, 22), (88, 23), (89, 24), (90, 25), (97, 26), (98, 27), (99, 28), (100, 29), (101, 30), (102, 31), (103, 32), (104, 33), (105, 34), (106, 35), (107, 36), (108, 37), (109, 38), (110, 39), (111, 40), (112, 41), (113, 42), (114, 43), (115, 44), (116, 45), (117, 46), (118, 47), (119, 48), (120, 49), (121, 50), (122, 51), (b10, 62), (b11, 63)]) pend1 7), [(b0, 65, true), (b11, 122, false), (b10, 122, false), (b8, 122, true), (b9, 122, true), (b9, 121, true), (b9, 120, true), (b9, 119, true), (b9, 118, true), (b9, 117, true), (b9, 116, true), (b9, 115, true), (b9, 114, true), (b9, 113, true), (b9, 111, true), (b9, 107, true), (b9, 99, true), (b9, 77, true), (b9, 71, true), (b9, 68, true), (b9, 66, true), (b9, 65, true)]) := by cases b <;> kernel_rfl
end Mine

/-! MSrtF -/
open PySem PySem.W PyProof.Rows PySem.Spec PySem.Calls
set_option maxRecDepth 1000000
set_option maxHeartbeats 4000000
set_option linter.unusedVariables false
namespace Mine
theorem P1_self (P : Params) : P1 P (P.followText "special-get-raises") = P := by
  unfold P1
  have : (fun k => if k = "special-get-raises" then P.followText "special-get-raises" else P.followText k) = P.followText := by
    funext k
    by_cases h : k = "special-get-raises"
    · rw [if_pos h, h]
    · rw [if_neg h]
  rw [this]
theorem ints_litL (t : Nat → Tok) (l : List (Int × Nat)) : IntsAre ((litL t l).toList.map (·.2)) (l.map (·.1)) := by
  unfold litL
  rw [List.toList_toArray, List.map_map]
  induction l with
  | nil => exact .nil
  | cons p r ih => exact .cons _ _ ih
/-- the sort of a₀ comes through its phases and leaves the ints S -/
noncomputable def SortsTo (prog : Program) (P : Params) (a₀ : Array Keyed) (S : List Int) : Prop :=
  ∃ (n g : Nat) (a₁ a₂ : Array Keyed), n < 32 ∧ ev ⟨prog, P⟩ ((countRun' 0 64).run (stOf a₀ #[] 7)) = some (some 52, stOf a₀ #[] 7) ∧
    ev ⟨prog, P⟩ ((countRun' 52 12).run (stOf a₀ #[(0, 52, 0)] 7)) = some (some n, stOf a₀ #[(0, 52, 0)] 7) ∧
    ev ⟨prog, P⟩ ((binarySort' 52 12 n).run (stOf a₀ #[(0, 52, 0)] 7)) = some (true, stOf a₁ #[(0, 52, 0)] 7) ∧
    ev ⟨prog, P⟩ ((mergeAt' 0).run (stOf a₁ pend2 7)) = some (true, stOf a₂ pend1 g) ∧ IntsAre (a₂.toList.map (·.2)) S
noncomputable def ascB : List Int → Bool
  | a :: b :: r => decide (a ≤ b) && ascB (b :: r)
  | _ => true
theorem ascB_pw : ∀ {l : List Int}, ascB l = true → l.Pairwise (· ≤ ·)
  | [], _ => .nil
  | [a], _ => .cons (fun _ h => nomatch h) .nil
  | a :: b :: r, h => by
    have h' : (decide (a ≤ b) && ascB (b :: r)) = true := h
    rw [Bool.and_eq_true] at h'
    have hab : a ≤ b := of_decide_eq_true h'.1
    have ih := ascB_pw h'.2
    refine .cons (fun c hc => ?_) ih
    rcases List.mem_cons.mp hc with rfl | hc
    · exact hab
    · exact Int.le_trans hab (List.rel_of_pairwise_cons ih hc)
noncomputable def okOf (cs : Asked) (S : List Int) : Bool := (cs.all fun c => decide (c.1 < c.2.1) == c.2.2) && ascB S
theorem okOf_spec {cs : Asked} {S : List Int} (h : okOf cs S = true) : (∀ c ∈ cs, decide (c.1 < c.2.1) = c.2.2) ∧ S.Pairwise (· ≤ ·) := by
  unfold okOf at h
  rw [Bool.and_eq_true, List.all_eq_true] at h
  exact ⟨fun c hc => eq_of_beq (h.1 c hc), ascB_pw h.2⟩
noncomputable def sortedZ : List Int := [48, 49, 50, 51, 52, 53, 54, 55, 56, 57, 65, 66, 67, 68, 69, 70, 71, 72, 73, 74, 75, 76, 77, 78, 79, 80, 81, 82, 83, 84, 85, 86, 87, 88, 89, 90, 97, 98, 99, 100, 101, 102, 103, 104, 105, 106, 107, 108, 109, 110, 111, 112, 113, 114, 115, 116, 117, 118, 119, 120, 121, 122]
theorem sortedZ_perm : sortedZ.Perm lettersL := by decide +kernel
theorem perm_xy {x y : Int} (p q r : List Int) (h : p ++ q ++ r = sortedZ) : (p ++ x :: (q ++ y :: r)).Perm (faceL x y) := by
  have h1 : (p ++ x :: (q ++ y :: r)).Perm (x :: (p ++ (q ++ y :: r))) := List.perm_middle
  have h2 : (p ++ (q ++ y :: r)).Perm (y :: (p ++ q ++ r)) := by
    rw [← List.append_assoc]; exact List.perm_middle
  have h3 : (x :: y :: (p ++ q ++ r)).Perm (lettersL ++ [x, y]) := by
    rw [h]
    exact (List.perm_append_comm (l₁ := [x, y]) (l₂ := sortedZ)).trans (sortedZ_perm.append_right _)
  exact (h1.trans (h2.cons x)).trans h3
theorem perm_yx {x y : Int} (p q r : List Int) (h : p ++ q ++ r = sortedZ) : (p ++ y :: (q ++ x :: r)).Perm (faceL x y) :=
  (perm_xy (x := y) (y := x) p q r h).trans ((List.Perm.swap x y []).append_left lettersL)
noncomputable def ok0 (x y : Int) : Bool := okOf ([(49, 48, false), (50, 49, false), (51, 50, false), (52, 51, false), (53, 52, false), (54, 53, false), (55, 54, false), (56, 55, false), (57, 56, false), (x, 57, true), (48, 57, true)] ++ [(x, 53, true), (x, 50, true), (x, 49, true), (x, 48, true), (y, 52, true), (y, 49, true), (y, 48, true), (y, x, false)] ++ [(x, 65, true), (57, 122, true), (57, 121, true), (57, 120, true), (57, 119, true), (57, 118, true), (57, 117, true), (57, 116, true), (57, 115, true), (57, 114, true), (57, 113, true), (57, 111, true), (57, 107, true), (57, 99, true), (57, 77, true), (57, 71, true), (57, 68, true), (57, 66, true), (57, 65, true)] : Asked) [x, y, 48, 49, 50, 51, 52, 53, 54, 55, 56, 57, 65, 66, 67, 68, 69, 70, 71, 72, 73, 74, 75, 76, 77, 78, 79, 80, 81, 82, 83, 84, 85, 86, 87, 88, 89, 90, 97, 98, 99, 100, 101, 102, 103, 104, 105, 106, 107, 108, 109, 110, 111, 112, 113, 114, 115, 116, 117, 118, 119, 120, 121, 122]
theorem typ0 (prog : Program) (P : Params) (t : Nat → Tok) (x y : Int) (h : ok0 x y = true) : ∃ S, SortsTo prog P (lit0 t x y) S ∧ S.Perm (faceL x y) ∧ S.Pairwise (· ≤ ·) := by
  obtain ⟨h, hs⟩ := okOf_spec h
  refine ⟨_, ?_, ?_, hs⟩
  rotate_left
  · exact perm_xy [] [] [48, 49, 50, 51, 52, 53, 54, 55, 56, 57, 65, 66, 67, 68, 69, 70, 71, 72, 73, 74, 75, 76, 77, 78, 79, 80, 81, 82, 83, 84, 85, 86, 87, 88, 89, 90, 97, 98, 99, 100, 101, 102, 103, 104, 105, 106, 107, 108, 109, 110, 111, 112, 113, 114, 115, 116, 117, 118, 119, 120, 121, 122] rfl
  have e := P1_self P
  rw [← e]
  simp only [List.forall_mem_append] at h
  exact ⟨_, _, _, _, by decide, phA _ _ _ _ _ _, evO_ev (run0 prog P _ t x y) h.1.1, evO_ev (bin0 prog P _ t x y) h.1.2, evO_ev (mrg0 prog P _ _ x y 48 49 50 51 52 53 54 55 56 57) h.2, ints_litL _ _⟩
noncomputable def ok1 (x y : Int) : Bool := okOf ([(49, 48, false), (50, 49, false), (51, 50, false), (52, 51, false), (53, 52, false), (54, 53, false), (55, 54, false), (56, 55, false), (57, 56, false), (x, 57, true), (48, 57, true)] ++ [(x, 53, true), (x, 50, true), (x, 49, true), (x, 48, true), (y, 52, false), (y, 55, false), (y, 57, false)] ++ [(x, 65, true), (y, 122, true), (y, 121, true), (y, 120, true), (y, 119, true), (y, 118, true), (y, 117, true), (y, 116, true), (y, 115, true), (y, 114, true), (y, 113, true), (y, 111, true), (y, 107, true), (y, 99, true), (y, 77, true), (y, 71, true), (y, 68, true), (y, 66, true), (y, 65, true)] : Asked) [x, 48, 49, 50, 51, 52, 53, 54, 55, 56, 57, y, 65, 66, 67, 68, 69, 70, 71, 72, 73, 74, 75, 76, 77, 78, 79, 80, 81, 82, 83, 84, 85, 86, 87, 88, 89, 90, 97, 98, 99, 100, 101, 102, 103, 104, 105, 106, 107, 108, 109, 110, 111, 112, 113, 114, 115, 116, 117, 118, 119, 120, 121, 122]
theorem typ1 (prog : Program) (P : Params) (t : Nat → Tok) (x y : Int) (h : ok1 x y = true) : ∃ S, SortsTo prog P (lit0 t x y) S ∧ S.Perm (faceL x y) ∧ S.Pairwise (· ≤ ·) := by
  obtain ⟨h, hs⟩ := okOf_spec h
  refine ⟨_, ?_, ?_, hs⟩
  rotate_left
  · exact perm_xy [] [48, 49, 50, 51, 52, 53, 54, 55, 56, 57] [65, 66, 67, 68, 69, 70, 71, 72, 73, 74, 75, 76, 77, 78, 79, 80, 81, 82, 83, 84, 85, 86, 87, 88, 89, 90, 97, 98, 99, 100, 101, 102, 103, 104, 105, 106, 107, 108, 109, 110, 111, 112, 113, 114, 115, 116, 117, 118, 119, 120, 121, 122] rfl
  have e := P1_self P
  rw [← e]
  simp only [List.forall_mem_append] at h
  exact ⟨_, _, _, _, by decide, phA _ _ _ _ _ _, evO_ev (run1 prog P _ t x y) h.1.1, evO_ev (bin1 prog P _ t x y) h.1.2, evO_ev (mrg0 prog P _ _ x 48 49 50 51 52 53 54 55 56 57 y) h.2, ints_litL _ _⟩
noncomputable def ok2 (x y : Int) : Bool := okOf ([(49, 48, false), (50, 49, false), (51, 50, false), (52, 51, false), (53, 52, false), (54, 53, false), (55, 54, false), (56, 55, false), (57, 56, false), (x, 57, true), (48, 57, true)] ++ [(x, 53, true), (x, 50, true), (x, 49, true), (x, 48, true), (y, 52, false), (y, 55, false), (y, 57, false)] ++ [(x, 65, true), (y, 122, true), (y, 121, true), (y, 120, true), (y, 119, true), (y, 118, true), (y, 117, true), (y, 116, true), (y, 115, true), (y, 114, true), (y, 113, true), (y, 111, true), (y, 107, true), (y, 99, true), (y, 77, false), (y, 85, false), (y, 89, false), (y, 97, true), (y, 90, false), (57, 90, true), (57, 89, true), (57, 88, true), (57, 86, true), (57, 82, true), (57, 74, true), (57, 69, true), (57, 67, true), (57, 66, true), (57, 65, true)] : Asked) [x, 48, 49, 50, 51, 52, 53, 54, 55, 56, 57, 65, 66, 67, 68, 69, 70, 71, 72, 73, 74, 75, 76, 77, 78, 79, 80, 81, 82, 83, 84, 85, 86, 87, 88, 89, 90, y, 97, 98, 99, 100, 101, 102, 103, 104, 105, 106, 107, 108, 109, 110, 111, 112, 113, 114, 115, 116, 117, 118, 119, 120, 121, 122]
theorem typ2 (prog : Program) (P : Params) (t : Nat → Tok) (x y : Int) (h : ok2 x y = true) : ∃ S, SortsTo prog P (lit0 t x y) S ∧ S.Perm (faceL x y) ∧ S.Pairwise (· ≤ ·) := by
  obtain ⟨h, hs⟩ := okOf_spec h
  refine ⟨_, ?_, ?_, hs⟩
  rotate_left
  · exact perm_xy [] [48, 49, 50, 51, 52, 53, 54, 55, 56, 57, 65, 66, 67, 68, 69, 70, 71, 72, 73, 74, 75, 76, 77, 78, 79, 80, 81, 82, 83, 84, 85, 86, 87, 88, 89, 90] [97, 98, 99, 100, 101, 102, 103, 104, 105, 106, 107, 108, 109, 110, 111, 112, 113, 114, 115, 116, 117, 118, 119, 120, 121, 122] rfl
  have e := P1_self P
  rw [← e]
  simp only [List.forall_mem_append] at h
  exact ⟨_, _, _, _, by decide, phA _ _ _ _ _ _, evO_ev (run1 prog P _ t x y) h.1.1, evO_ev (bin1 prog P _ t x y) h.1.2, evO_ev (mrg1 prog P _ _ x 48 49 50 51 52 53 54 55 56 57 y) h.2, ints_litL _ _⟩
noncomputable def ok3 (x y : Int) : Bool := okOf ([(49, 48, false), (50, 49, false), (51, 50, false), (52, 51, false), (53, 52, false), (54, 53, false), (55, 54, false), (56, 55, false), (57, 56, false), (x, 57, true), (48, 57, true)] ++ [(x, 53, true), (x, 50, true), (x, 49, true), (x, 48, true), (y, 52, false), (y, 55, false), (y, 57, false)] ++ [(x, 65, true), (y, 122, false), (57, 122, true), (57, 121, true), (57, 120, true), (57, 119, true), (57, 118, true), (57, 117, true), (57, 116, true), (57, 115, true), (57, 114, true), (57, 113, true), (57, 111, true), (57, 107, true), (57, 99, true), (57, 77, true), (57, 71, true), (57, 68, true), (57, 66, true), (57, 65, true)] : Asked) [x, 48, 49, 50, 51, 52, 53, 54, 55, 56, 57, 65, 66, 67, 68, 69, 70, 71, 72, 73, 74, 75, 76, 77, 78, 79, 80, 81, 82, 83, 84, 85, 86, 87, 88, 89, 90, 97, 98, 99, 100, 101, 102, 103, 104, 105, 106, 107, 108, 109, 110, 111, 112, 113, 114, 115, 116, 117, 118, 119, 120, 121, 122, y]
theorem typ3 (prog : Program) (P : Params) (t : Nat → Tok) (x y : Int) (h : ok3 x y = true) : ∃ S, SortsTo prog P (lit0 t x y) S ∧ S.Perm (faceL x y) ∧ S.Pairwise (· ≤ ·) := by
  obtain ⟨h, hs⟩ := okOf_spec h
  refine ⟨_, ?_, ?_, hs⟩
  rotate_left
  · exact perm_xy [] [48, 49, 50, 51, 52, 53, 54, 55, 56, 57, 65, 66, 67, 68, 69, 70, 71, 72, 73, 74, 75, 76, 77, 78, 79, 80, 81, 82, 83, 84, 85, 86, 87, 88, 89, 90, 97, 98, 99, 100, 101, 102, 103, 104, 105, 106, 107, 108, 109, 110, 111, 112, 113, 114, 115, 116, 117, 118, 119, 120, 121, 122] [] rfl
  have e := P1_self P
  rw [← e]
  simp only [List.forall_mem_append] at h
  exact ⟨_, _, _, _, by decide, phA _ _ _ _ _ _, evO_ev (run1 prog P _ t x y) h.1.1, evO_ev (bin1 prog P _ t x y) h.1.2, evO_ev (mrg2 prog P _ _ x 48 49 50 51 52 53 54 55 56 57 y) h.2, ints_litL _ _⟩
noncomputable def ok4 (x y : Int) : Bool := okOf ([(49, 48, false), (50, 49, false), (51, 50, false), (52, 51, false), (53, 52, false), (54, 53, false), (55, 54, false), (56, 55, false), (57, 56, false), (x, 57, true), (48, 57, true)] ++ [(x, 53, true), (x, 50, true), (x, 49, true), (x, 48, true), (y, 52, true), (y, 49, true), (y, 48, true), (y, x, true)] ++ [(y, 65, true), (57, 122, true), (57, 121, true), (57, 120, true), (57, 119, true), (57, 118, true), (57, 117, true), (57, 116, true), (57, 115, true), (57, 114, true), (57, 113, true), (57, 111, true), (57, 107, true), (57, 99, true), (57, 77, true), (57, 71, true), (57, 68, true), (57, 66, true), (57, 65, true)] : Asked) [y, x, 48, 49, 50, 51, 52, 53, 54, 55, 56, 57, 65, 66, 67, 68, 69, 70, 71, 72, 73, 74, 75, 76, 77, 78, 79, 80, 81, 82, 83, 84, 85, 86, 87, 88, 89, 90, 97, 98, 99, 100, 101, 102, 103, 104, 105, 106, 107, 108, 109, 110, 111, 112, 113, 114, 115, 116, 117, 118, 119, 120, 121, 122]
theorem typ4 (prog : Program) (P : Params) (t : Nat → Tok) (x y : Int) (h : ok4 x y = true) : ∃ S, SortsTo prog P (lit0 t x y) S ∧ S.Perm (faceL x y) ∧ S.Pairwise (· ≤ ·) := by
  obtain ⟨h, hs⟩ := okOf_spec h
  refine ⟨_, ?_, ?_, hs⟩
  rotate_left
  · exact perm_yx [] [] [48, 49, 50, 51, 52, 53, 54, 55, 56, 57, 65, 66, 67, 68, 69, 70, 71, 72, 73, 74, 75, 76, 77, 78, 79, 80, 81, 82, 83, 84, 85, 86, 87, 88, 89, 90, 97, 98, 99, 100, 101, 102, 103, 104, 105, 106, 107, 108, 109, 110, 111, 112, 113, 114, 115, 116, 117, 118, 119, 120, 121, 122] rfl
  have e := P1_self P
  rw [← e]
  simp only [List.forall_mem_append] at h
  exact ⟨_, _, _, _, by decide, phA _ _ _ _ _ _, evO_ev (run2 prog P _ t x y) h.1.1, evO_ev (bin2 prog P _ t x y) h.1.2, evO_ev (mrg0 prog P _ _ y x 48 49 50 51 52 53 54 55 56 57) h.2, ints_litL _ _⟩
noncomputable def ok5 (x y : Int) : Bool := okOf ([(49, 48, false), (50, 49, false), (51, 50, false), (52, 51, false), (53, 52, false), (54, 53, false), (55, 54, false), (56, 55, false), (57, 56, false), (x, 57, false), (y, x, true), (48, x, true)] ++ [(y, 53, true), (y, 50, true), (y, 49, true), (y, 48, true)] ++ [(y, 65, true), (x, 122, true), (x, 121, true), (x, 120, true), (x, 119, true), (x, 118, true), (x, 117, true), (x, 116, true), (x, 115, true), (x, 114, true), (x, 113, true), (x, 111, true), (x, 107, true), (x, 99, true), (x, 77, true), (x, 71, true), (x, 68, true), (x, 66, true), (x, 65, true)] : Asked) [y, 48, 49, 50, 51, 52, 53, 54, 55, 56, 57, x, 65, 66, 67, 68, 69, 70, 71, 72, 73, 74, 75, 76, 77, 78, 79, 80, 81, 82, 83, 84, 85, 86, 87, 88, 89, 90, 97, 98, 99, 100, 101, 102, 103, 104, 105, 106, 107, 108, 109, 110, 111, 112, 113, 114, 115, 116, 117, 118, 119, 120, 121, 122]
theorem typ5 (prog : Program) (P : Params) (t : Nat → Tok) (x y : Int) (h : ok5 x y = true) : ∃ S, SortsTo prog P (lit0 t x y) S ∧ S.Perm (faceL x y) ∧ S.Pairwise (· ≤ ·) := by
  obtain ⟨h, hs⟩ := okOf_spec h
  refine ⟨_, ?_, ?_, hs⟩
  rotate_left
  · exact perm_yx [] [48, 49, 50, 51, 52, 53, 54, 55, 56, 57] [65, 66, 67, 68, 69, 70, 71, 72, 73, 74, 75, 76, 77, 78, 79, 80, 81, 82, 83, 84, 85, 86, 87, 88, 89, 90, 97, 98, 99, 100, 101, 102, 103, 104, 105, 106, 107, 108, 109, 110, 111, 112, 113, 114, 115, 116, 117, 118, 119, 120, 121, 122] rfl
  have e := P1_self P
  rw [← e]
  simp only [List.forall_mem_append] at h
  exact ⟨_, _, _, _, by decide, phA _ _ _ _ _ _, evO_ev (run3 prog P _ t x y) h.1.1, evO_ev (bin3 prog P _ t x y) h.1.2, evO_ev (mrg0 prog P _ _ y 48 49 50 51 52 53 54 55 56 57 x) h.2, ints_litL _ _⟩
noncomputable def ok6 (x y : Int) : Bool := okOf ([(49, 48, false), (50, 49, false), (51, 50, false), (52, 51, false), (53, 52, false), (54, 53, false), (55, 54, false), (56, 55, false), (57, 56, false), (x, 57, false), (y, x, false)] ++ [] ++ [(48, 65, true), (y, 122, true), (y, 121, true), (y, 120, true), (y, 119, true), (y, 118, true), (y, 117, true), (y, 116, true), (y, 115, true), (y, 114, true), (y, 113, true), (y, 111, true), (y, 107, true), (y, 99, true), (y, 77, true), (y, 71, true), (y, 68, true), (y, 66, true), (y, 65, true)] : Asked) [48, 49, 50, 51, 52, 53, 54, 55, 56, 57, x, y, 65, 66, 67, 68, 69, 70, 71, 72, 73, 74, 75, 76, 77, 78, 79, 80, 81, 82, 83, 84, 85, 86, 87, 88, 89, 90, 97, 98, 99, 100, 101, 102, 103, 104, 105, 106, 107, 108, 109, 110, 111, 112, 113, 114, 115, 116, 117, 118, 119, 120, 121, 122]
theorem typ6 (prog : Program) (P : Params) (t : Nat → Tok) (x y : Int) (h : ok6 x y = true) : ∃ S, SortsTo prog P (lit0 t x y) S ∧ S.Perm (faceL x y) ∧ S.Pairwise (· ≤ ·) := by
  obtain ⟨h, hs⟩ := okOf_spec h
  refine ⟨_, ?_, ?_, hs⟩
  rotate_left
  · exact perm_xy [48, 49, 50, 51, 52, 53, 54, 55, 56, 57] [] [65, 66, 67, 68, 69, 70, 71, 72, 73, 74, 75, 76, 77, 78, 79, 80, 81, 82, 83, 84, 85, 86, 87, 88, 89, 90, 97, 98, 99, 100, 101, 102, 103, 104, 105, 106, 107, 108, 109, 110, 111, 112, 113, 114, 115, 116, 117, 118, 119, 120, 121, 122] rfl
  have e := P1_self P
  rw [← e]
  simp only [List.forall_mem_append] at h
  exact ⟨_, _, _, _, by decide, phA _ _ _ _ _ _, evO_ev (run4 prog P _ t x y) h.1.1, evO_ev (bin4 prog P _ t x y) h.1.2, evO_ev (mrg0 prog P _ _ 48 49 50 51 52 53 54 55 56 57 x y) h.2, ints_litL _ _⟩
noncomputable def ok7 (x y : Int) : Bool := okOf ([(49, 48, false), (50, 49, false), (51, 50, false), (52, 51, false), (53, 52, false), (54, 53, false), (55, 54, false), (56, 55, false), (57, 56, false), (x, 57, false), (y, x, false)] ++ [] ++ [(48, 65, true), (y, 122, true), (y, 121, true), (y, 120, true), (y, 119, true), (y, 118, true), (y, 117, true), (y, 116, true), (y, 115, true), (y, 114, true), (y, 113, true), (y, 111, true), (y, 107, true), (y, 99, true), (y, 77, false), (y, 85, false), (y, 89, false), (y, 97, true), (y, 90, false), (x, 90, true), (x, 89, true), (x, 88, true), (x, 86, true), (x, 82, true), (x, 74, true), (x, 69, true), (x, 67, true), (x, 66, true), (x, 65, true)] : Asked) [48, 49, 50, 51, 52, 53, 54, 55, 56, 57, x, 65, 66, 67, 68, 69, 70, 71, 72, 73, 74, 75, 76, 77, 78, 79, 80, 81, 82, 83, 84, 85, 86, 87, 88, 89, 90, y, 97, 98, 99, 100, 101, 102, 103, 104, 105, 106, 107, 108, 109, 110, 111, 112, 113, 114, 115, 116, 117, 118, 119, 120, 121, 122]
theorem typ7 (prog : Program) (P : Params) (t : Nat → Tok) (x y : Int) (h : ok7 x y = true) : ∃ S, SortsTo prog P (lit0 t x y) S ∧ S.Perm (faceL x y) ∧ S.Pairwise (· ≤ ·) := by
  obtain ⟨h, hs⟩ := okOf_spec h
  refine ⟨_, ?_, ?_, hs⟩
  rotate_left
  · exact perm_xy [48, 49, 50, 51, 52, 53, 54, 55, 56, 57] [65, 66, 67, 68, 69, 70, 71, 72, 73, 74, 75, 76, 77, 78, 79, 80, 81, 82, 83, 84, 85, 86, 87, 88, 89, 90] [97, 98, 99, 100, 101, 102, 103, 104, 105, 106, 107, 108, 109, 110, 111, 112, 113, 114, 115, 116, 117, 118, 119, 120, 121, 122] rfl
  have e := P1_self P
  rw [← e]
  simp only [List.forall_mem_append] at h
  exact ⟨_, _, _, _, by decide, phA _ _ _ _ _ _, evO_ev (run4 prog P _ t x y) h.1.1, evO_ev (bin4 prog P _ t x y) h.1.2, evO_ev (mrg1 prog P _ _ 48 49 50 51 52 53 54 55 56 57 x y) h.2, ints_litL _ _⟩
noncomputable def ok8 (x y : Int) : Bool := okOf ([(49, 48, false), (50, 49, false), (51, 50, false), (52, 51, false), (53, 52, false), (54, 53, false), (55, 54, false), (56, 55, false), (57, 56, false), (x, 57, false), (y, x, false)] ++ [] ++ [(48, 65, true), (y, 122, false), (x, 122, true), (x, 121, true), (x, 120, true), (x, 119, true), (x, 118, true), (x, 117, true), (x, 116, true), (x, 115, true), (x, 114, true), (x, 113, true), (x, 111, true), (x, 107, true), (x, 99, true), (x, 77, true), (x, 71, true), (x, 68, true), (x, 66, true), (x, 65, true)] : Asked) [48, 49, 50, 51, 52, 53, 54, 55, 56, 57, x, 65, 66, 67, 68, 69, 70, 71, 72, 73, 74, 75, 76, 77, 78, 79, 80, 81, 82, 83, 84, 85, 86, 87, 88, 89, 90, 97, 98, 99, 100, 101, 102, 103, 104, 105, 106, 107, 108, 109, 110, 111, 112, 113, 114, 115, 116, 117, 118, 119, 120, 121, 122, y]
theorem typ8 (prog : Program) (P : Params) (t : Nat → Tok) (x y : Int) (h : ok8 x y = true) : ∃ S, SortsTo prog P (lit0 t x y) S ∧ S.Perm (faceL x y) ∧ S.Pairwise (· ≤ ·) := by
  obtain ⟨h, hs⟩ := okOf_spec h
  refine ⟨_, ?_, ?_, hs⟩
  rotate_left
  · exact perm_xy [48, 49, 50, 51, 52, 53, 54, 55, 56, 57] [65, 66, 67, 68, 69, 70, 71, 72, 73, 74, 75, 76, 77, 78, 79, 80, 81, 82, 83, 84, 85, 86, 87, 88, 89, 90, 97, 98, 99, 100, 101, 102, 103, 104, 105, 106, 107, 108, 109, 110, 111, 112, 113, 114, 115, 116, 117, 118, 119, 120, 121, 122] [] rfl
  have e := P1_self P
  rw [← e]
  simp only [List.forall_mem_append] at h
  exact ⟨_, _, _, _, by decide, phA _ _ _ _ _ _, evO_ev (run4 prog P _ t x y) h.1.1, evO_ev (bin4 prog P _ t x y) h.1.2, evO_ev (mrg2 prog P _ _ 48 49 50 51 52 53 54 55 56 57 x y) h.2, ints_litL _ _⟩
noncomputable def ok9 (x y : Int) : Bool := okOf ([(49, 48, false), (50, 49, false), (51, 50, false), (52, 51, false), (53, 52, false), (54, 53, false), (55, 54, false), (56, 55, false), (57, 56, false), (x, 57, false), (y, x, true), (48, x, true)] ++ [(y, 53, false), (y, 56, false), (y, x, true), (y, 57, false)] ++ [(48, 65, true), (x, 122, true), (x, 121, true), (x, 120, true), (x, 119, true), (x, 118, true), (x, 117, true), (x, 116, true), (x, 115, true), (x, 114, true), (x, 113, true), (x, 111, true), (x, 107, true), (x, 99, true), (x, 77, true), (x, 71, true), (x, 68, true), (x, 66, true), (x, 65, true)] : Asked) [48, 49, 50, 51, 52, 53, 54, 55, 56, 57, y, x, 65, 66, 67, 68, 69, 70, 71, 72, 73, 74, 75, 76, 77, 78, 79, 80, 81, 82, 83, 84, 85, 86, 87, 88, 89, 90, 97, 98, 99, 100, 101, 102, 103, 104, 105, 106, 107, 108, 109, 110, 111, 112, 113, 114, 115, 116, 117, 118, 119, 120, 121, 122]
theorem typ9 (prog : Program) (P : Params) (t : Nat → Tok) (x y : Int) (h : ok9 x y = true) : ∃ S, SortsTo prog P (lit0 t x y) S ∧ S.Perm (faceL x y) ∧ S.Pairwise (· ≤ ·) := by
  obtain ⟨h, hs⟩ := okOf_spec h
  refine ⟨_, ?_, ?_, hs⟩
  rotate_left
  · exact perm_yx [48, 49, 50, 51, 52, 53, 54, 55, 56, 57] [] [65, 66, 67, 68, 69, 70, 71, 72, 73, 74, 75, 76, 77, 78, 79, 80, 81, 82, 83, 84, 85, 86, 87, 88, 89, 90, 97, 98, 99, 100, 101, 102, 103, 104, 105, 106, 107, 108, 109, 110, 111, 112, 113, 114, 115, 116, 117, 118, 119, 120, 121, 122] rfl
  have e := P1_self P
  rw [← e]
  simp only [List.forall_mem_append] at h
  exact ⟨_, _, _, _, by decide, phA _ _ _ _ _ _, evO_ev (run5 prog P _ t x y) h.1.1, evO_ev (bin5 prog P _ t x y) h.1.2, evO_ev (mrg0 prog P _ _ 48 49 50 51 52 53 54 55 56 57 y x) h.2, ints_litL _ _⟩
noncomputable def ok10 (x y : Int) : Bool := okOf ([(49, 48, false), (50, 49, false), (51, 50, false), (52, 51, false), (53, 52, false), (54, 53, false), (55, 54, false), (56, 55, false), (57, 56, false), (x, 57, false), (y, x, true), (48, x, true)] ++ [(y, 53, true), (y, 50, true), (y, 49, true), (y, 48, true)] ++ [(y, 65, true), (x, 122, true), (x, 121, true), (x, 120, true), (x, 119, true), (x, 118, true), (x, 117, true), (x, 116, true), (x, 115, true), (x, 114, true), (x, 113, true), (x, 111, true), (x, 107, true), (x, 99, true), (x, 77, false), (x, 85, false), (x, 89, false), (x, 97, true), (x, 90, false), (57, 90, true), (57, 89, true), (57, 88, true), (57, 86, true), (57, 82, true), (57, 74, true), (57, 69, true), (57, 67, true), (57, 66, true), (57, 65, true)] : Asked) [y, 48, 49, 50, 51, 52, 53, 54, 55, 56, 57, 65, 66, 67, 68, 69, 70, 71, 72, 73, 74, 75, 76, 77, 78, 79, 80, 81, 82, 83, 84, 85, 86, 87, 88, 89, 90, x, 97, 98, 99, 100, 101, 102, 103, 104, 105, 106, 107, 108, 109, 110, 111, 112, 113, 114, 115, 116, 117, 118, 119, 120, 121, 122]
theorem typ10 (prog : Program) (P : Params) (t : Nat → Tok) (x y : Int) (h : ok10 x y = true) : ∃ S, SortsTo prog P (lit0 t x y) S ∧ S.Perm (faceL x y) ∧ S.Pairwise (· ≤ ·) := by
  obtain ⟨h, hs⟩ := okOf_spec h
  refine ⟨_, ?_, ?_, hs⟩
  rotate_left
  · exact perm_yx [] [48, 49, 50, 51, 52, 53, 54, 55, 56, 57, 65, 66, 67, 68, 69, 70, 71, 72, 73, 74, 75, 76, 77, 78, 79, 80, 81, 82, 83, 84, 85, 86, 87, 88, 89, 90] [97, 98, 99, 100, 101, 102, 103, 104, 105, 106, 107, 108, 109, 110, 111, 112, 113, 114, 115, 116, 117, 118, 119, 120, 121, 122] rfl
  have e := P1_self P
  rw [← e]
  simp only [List.forall_mem_append] at h
  exact ⟨_, _, _, _, by decide, phA _ _ _ _ _ _, evO_ev (run3 prog P _ t x y) h.1.1, evO_ev (bin3 prog P _ t x y) h.1.2, evO_ev (mrg1 prog P _ _ y 48 49 50 51 52 53 54 55 56 57 x) h.2, ints_litL _ _⟩
noncomputable def ok11 (x y : Int) : Bool := okOf ([(49, 48, false), (50, 49, false), (51, 50, false), (52, 51, false), (53, 52, false), (54, 53, false), (55, 54, false), (56, 55, false), (57, 56, false), (x, 57, false), (y, x, true), (48, x, true)] ++ [(y, 53, false), (y, 56, false), (y, x, true), (y, 57, false)] ++ [(48, 65, true), (x, 122, true), (x, 121, true), (x, 120, true), (x, 119, true), (x, 118, true), (x, 117, true), (x, 116, true), (x, 115, true), (x, 114, true), (x, 113, true), (x, 111, true), (x, 107, true), (x, 99, true), (x, 77, false), (x, 85, false), (x, 89, false), (x, 97, true), (x, 90, false), (y, 90, true), (y, 89, true), (y, 88, true), (y, 86, true), (y, 82, true), (y, 74, true), (y, 69, true), (y, 67, true), (y, 66, true), (y, 65, true)] : Asked) [48, 49, 50, 51, 52, 53, 54, 55, 56, 57, y, 65, 66, 67, 68, 69, 70, 71, 72, 73, 74, 75, 76, 77, 78, 79, 80, 81, 82, 83, 84, 85, 86, 87, 88, 89, 90, x, 97, 98, 99, 100, 101, 102, 103, 104, 105, 106, 107, 108, 109, 110, 111, 112, 113, 114, 115, 116, 117, 118, 119, 120, 121, 122]
theorem typ11 (prog : Program) (P : Params) (t : Nat → Tok) (x y : Int) (h : ok11 x y = true) : ∃ S, SortsTo prog P (lit0 t x y) S ∧ S.Perm (faceL x y) ∧ S.Pairwise (· ≤ ·) := by
  obtain ⟨h, hs⟩ := okOf_spec h
  refine ⟨_, ?_, ?_, hs⟩
  rotate_left
  · exact perm_yx [48, 49, 50, 51, 52, 53, 54, 55, 56, 57] [65, 66, 67, 68, 69, 70, 71, 72, 73, 74, 75, 76, 77, 78, 79, 80, 81, 82, 83, 84, 85, 86, 87, 88, 89, 90] [97, 98, 99, 100, 101, 102, 103, 104, 105, 106, 107, 108, 109, 110, 111, 112, 113, 114, 115, 116, 117, 118, 119, 120, 121, 122] rfl
  have e := P1_self P
  rw [← e]
  simp only [List.forall_mem_append] at h
  exact ⟨_, _, _, _, by decide, phA _ _ _ _ _ _, evO_ev (run5 prog P _ t x y) h.1.1, evO_ev (bin5 prog P _ t x y) h.1.2, evO_ev (mrg1 prog P _ _ 48 49 50 51 52 53 54 55 56 57 y x) h.2, ints_litL _ _⟩
noncomputable def ok12 (x y : Int) : Bool := okOf ([(49, 48, false), (50, 49, false), (51, 50, false), (52, 51, false), (53, 52, false), (54, 53, false), (55, 54, false), (56, 55, false), (57, 56, false), (x, 57, false), (y, x, false)] ++ [] ++ [(48, 65, true), (y, 122, true), (y, 121, true), (y, 120, true), (y, 119, true), (y, 118, true), (y, 117, true), (y, 116, true), (y, 115, true), (y, 114, true), (y, 113, true), (y, 111, true), (y, 107, true), (y, 99, true), (y, 77, false), (y, 85, false), (y, 89, false), (y, 97, true), (y, 90, false), (x, 90, false), (57, 90, true), (57, 89, true), (57, 88, true), (57, 86, true), (57, 82, true), (57, 74, true), (57, 69, true), (57, 67, true), (57, 66, true), (57, 65, true)] : Asked) [48, 49, 50, 51, 52, 53, 54, 55, 56, 57, 65, 66, 67, 68, 69, 70, 71, 72, 73, 74, 75, 76, 77, 78, 79, 80, 81, 82, 83, 84, 85, 86, 87, 88, 89, 90, x, y, 97, 98, 99, 100, 101, 102, 103, 104, 105, 106, 107, 108, 109, 110, 111, 112, 113, 114, 115, 116, 117, 118, 119, 120, 121, 122]
theorem typ12 (prog : Program) (P : Params) (t : Nat → Tok) (x y : Int) (h : ok12 x y = true) : ∃ S, SortsTo prog P (lit0 t x y) S ∧ S.Perm (faceL x y) ∧ S.Pairwise (· ≤ ·) := by
  obtain ⟨h, hs⟩ := okOf_spec h
  refine ⟨_, ?_, ?_, hs⟩
  rotate_left
  · exact perm_xy [48, 49, 50, 51, 52, 53, 54, 55, 56, 57, 65, 66, 67, 68, 69, 70, 71, 72, 73, 74, 75, 76, 77, 78, 79, 80, 81, 82, 83, 84, 85, 86, 87, 88, 89, 90] [] [97, 98, 99, 100, 101, 102, 103, 104, 105, 106, 107, 108, 109, 110, 111, 112, 113, 114, 115, 116, 117, 118, 119, 120, 121, 122] rfl
  have e := P1_self P
  rw [← e]
  simp only [List.forall_mem_append] at h
  exact ⟨_, _, _, _, by decide, phA _ _ _ _ _ _, evO_ev (run4 prog P _ t x y) h.1.1, evO_ev (bin4 prog P _ t x y) h.1.2, evO_ev (mrg3 prog P _ _ 48 49 50 51 52 53 54 55 56 57 x y) h.2, ints_litL _ _⟩
noncomputable def ok13 (x y : Int) : Bool := okOf ([(49, 48, false), (50, 49, false), (51, 50, false), (52, 51, false), (53, 52, false), (54, 53, false), (55, 54, false), (56, 55, false), (57, 56, false), (x, 57, false), (y, x, false)] ++ [] ++ [(48, 65, true), (y, 122, false), (x, 122, true), (x, 121, true), (x, 120, true), (x, 119, true), (x, 118, true), (x, 117, true), (x, 116, true), (x, 115, true), (x, 114, true), (x, 113, true), (x, 111, true), (x, 107, true), (x, 99, true), (x, 77, false), (x, 85, false), (x, 89, false), (x, 97, true), (x, 90, false), (57, 90, true), (57, 89, true), (57, 88, true), (57, 86, true), (57, 82, true), (57, 74, true), (57, 69, true), (57, 67, true), (57, 66, true), (57, 65, true)] : Asked) [48, 49, 50, 51, 52, 53, 54, 55, 56, 57, 65, 66, 67, 68, 69, 70, 71, 72, 73, 74, 75, 76, 77, 78, 79, 80, 81, 82, 83, 84, 85, 86, 87, 88, 89, 90, x, 97, 98, 99, 100, 101, 102, 103, 104, 105, 106, 107, 108, 109, 110, 111, 112, 113, 114, 115, 116, 117, 118, 119, 120, 121, 122, y]
theorem typ13 (prog : Program) (P : Params) (t : Nat → Tok) (x y : Int) (h : ok13 x y = true) : ∃ S, SortsTo prog P (lit0 t x y) S ∧ S.Perm (faceL x y) ∧ S.Pairwise (· ≤ ·) := by
  obtain ⟨h, hs⟩ := okOf_spec h
  refine ⟨_, ?_, ?_, hs⟩
  rotate_left
  · exact perm_xy [48, 49, 50, 51, 52, 53, 54, 55, 56, 57, 65, 66, 67, 68, 69, 70, 71, 72, 73, 74, 75, 76, 77, 78, 79, 80, 81, 82, 83, 84, 85, 86, 87, 88, 89, 90] [97, 98, 99, 100, 101, 102, 103, 104, 105, 106, 107, 108, 109, 110, 111, 112, 113, 114, 115, 116, 117, 118, 119, 120, 121, 122] [] rfl
  have e := P1_self P
  rw [← e]
  simp only [List.forall_mem_append] at h
  exact ⟨_, _, _, _, by decide, phA _ _ _ _ _ _, evO_ev (run4 prog P _ t x y) h.1.1, evO_ev (bin4 prog P _ t x y) h.1.2, evO_ev (mrg4 prog P _ _ 48 49 50 51 52 53 54 55 56 57 x y) h.2, ints_litL _ _⟩
noncomputable def ok14 (x y : Int) : Bool := okOf ([(49, 48, false), (50, 49, false), (51, 50, false), (52, 51, false), (53, 52, false), (54, 53, false), (55, 54, false), (56, 55, false), (57, 56, false), (x, 57, false), (y, x, true), (48, x, true)] ++ [(y, 53, false), (y, 56, false), (y, x, true), (y, 57, false)] ++ [(48, 65, true), (x, 122, true), (x, 121, true), (x, 120, true), (x, 119, true), (x, 118, true), (x, 117, true), (x, 116, true), (x, 115, true), (x, 114, true), (x, 113, true), (x, 111, true), (x, 107, true), (x, 99, true), (x, 77, false), (x, 85, false), (x, 89, false), (x, 97, true), (x, 90, false), (y, 90, false), (57, 90, true), (57, 89, true), (57, 88, true), (57, 86, true), (57, 82, true), (57, 74, true), (57, 69, true), (57, 67, true), (57, 66, true), (57, 65, true)] : Asked) [48, 49, 50, 51, 52, 53, 54, 55, 56, 57, 65, 66, 67, 68, 69, 70, 71, 72, 73, 74, 75, 76, 77, 78, 79, 80, 81, 82, 83, 84, 85, 86, 87, 88, 89, 90, y, x, 97, 98, 99, 100, 101, 102, 103, 104, 105, 106, 107, 108, 109, 110, 111, 112, 113, 114, 115, 116, 117, 118, 119, 120, 121, 122]
theorem typ14 (prog : Program) (P : Params) (t : Nat → Tok) (x y : Int) (h : ok14 x y = true) : ∃ S, SortsTo prog P (lit0 t x y) S ∧ S.Perm (faceL x y) ∧ S.Pairwise (· ≤ ·) := by
  obtain ⟨h, hs⟩ := okOf_spec h
  refine ⟨_, ?_, ?_, hs⟩
  rotate_left
  · exact perm_yx [48, 49, 50, 51, 52, 53, 54, 55, 56, 57, 65, 66, 67, 68, 69, 70, 71, 72, 73, 74, 75, 76, 77, 78, 79, 80, 81, 82, 83, 84, 85, 86, 87, 88, 89, 90] [] [97, 98, 99, 100, 101, 102, 103, 104, 105, 106, 107, 108, 109, 110, 111, 112, 113, 114, 115, 116, 117, 118, 119, 120, 121, 122] rfl
  have e := P1_self P
  rw [← e]
  simp only [List.forall_mem_append] at h
  exact ⟨_, _, _, _, by decide, phA _ _ _ _ _ _, evO_ev (run5 prog P _ t x y) h.1.1, evO_ev (bin5 prog P _ t x y) h.1.2, evO_ev (mrg3 prog P _ _ 48 49 50 51 52 53 54 55 56 57 y x) h.2, ints_litL _ _⟩
noncomputable def ok15 (x y : Int) : Bool := okOf ([(49, 48, false), (50, 49, false), (51, 50, false), (52, 51, false), (53, 52, false), (54, 53, false), (55, 54, false), (56, 55, false), (57, 56, false), (x, 57, false), (y, x, true), (48, x, true)] ++ [(y, 53, true), (y, 50, true), (y, 49, true), (y, 48, true)] ++ [(y, 65, true), (x, 122, false), (57, 122, true), (57, 121, true), (57, 120, true), (57, 119, true), (57, 118, true), (57, 117, true), (57, 116, true), (57, 115, true), (57, 114, true), (57, 113, true), (57, 111, true), (57, 107, true), (57, 99, true), (57, 77, true), (57, 71, true), (57, 68, true), (57, 66, true), (57, 65, true)] : Asked) [y, 48, 49, 50, 51, 52, 53, 54, 55, 56, 57, 65, 66, 67, 68, 69, 70, 71, 72, 73, 74, 75, 76, 77, 78, 79, 80, 81, 82, 83, 84, 85, 86, 87, 88, 89, 90, 97, 98, 99, 100, 101, 102, 103, 104, 105, 106, 107, 108, 109, 110, 111, 112, 113, 114, 115, 116, 117, 118, 119, 120, 121, 122, x]
theorem typ15 (prog : Program) (P : Params) (t : Nat → Tok) (x y : Int) (h : ok15 x y = true) : ∃ S, SortsTo prog P (lit0 t x y) S ∧ S.Perm (faceL x y) ∧ S.Pairwise (· ≤ ·) := by
  obtain ⟨h, hs⟩ := okOf_spec h
  refine ⟨_, ?_, ?_, hs⟩
  rotate_left
  · exact perm_yx [] [48, 49, 50, 51, 52, 53, 54, 55, 56, 57, 65, 66, 67, 68, 69, 70, 71, 72, 73, 74, 75, 76, 77, 78, 79, 80, 81, 82, 83, 84, 85, 86, 87, 88, 89, 90, 97, 98, 99, 100, 101, 102, 103, 104, 105, 106, 107, 108, 109, 110, 111, 112, 113, 114, 115, 116, 117, 118, 119, 120, 121, 122] [] rfl
  have e := P1_self P
  rw [← e]
  simp only [List.forall_mem_append] at h
  exact ⟨_, _, _, _, by decide, phA _ _ _ _ _ _, evO_ev (run3 prog P _ t x y) h.1.1, evO_ev (bin3 prog P _ t x y) h.1.2, evO_ev (mrg2 prog P _ _ y 48 49 50 51 52 53 54 55 56 57 x) h.2, ints_litL _ _⟩
noncomputable def ok16 (x y : Int) : Bool := okOf ([(49, 48, false), (50, 49, false), (51, 50, false), (52, 51, false), (53, 52, false), (54, 53, false), (55, 54, false), (56, 55, false), (57, 56, false), (x, 57, false), (y, x, true), (48, x, true)] ++ [(y, 53, false), (y, 56, false), (y, x, true), (y, 57, false)] ++ [(48, 65, true), (x, 122, false), (y, 122, true), (y, 121, true), (y, 120, true), (y, 119, true), (y, 118, true), (y, 117, true), (y, 116, true), (y, 115, true), (y, 114, true), (y, 113, true), (y, 111, true), (y, 107, true), (y, 99, true), (y, 77, true), (y, 71, true), (y, 68, true), (y, 66, true), (y, 65, true)] : Asked) [48, 49, 50, 51, 52, 53, 54, 55, 56, 57, y, 65, 66, 67, 68, 69, 70, 71, 72, 73, 74, 75, 76, 77, 78, 79, 80, 81, 82, 83, 84, 85, 86, 87, 88, 89, 90, 97, 98, 99, 100, 101, 102, 103, 104, 105, 106, 107, 108, 109, 110, 111, 112, 113, 114, 115, 116, 117, 118, 119, 120, 121, 122, x]
theorem typ16 (prog : Program) (P : Params) (t : Nat → Tok) (x y : Int) (h : ok16 x y = true) : ∃ S, SortsTo prog P (lit0 t x y) S ∧ S.Perm (faceL x y) ∧ S.Pairwise (· ≤ ·) := by
  obtain ⟨h, hs⟩ := okOf_spec h
  refine ⟨_, ?_, ?_, hs⟩
  rotate_left
  · exact perm_yx [48, 49, 50, 51, 52, 53, 54, 55, 56, 57] [65, 66, 67, 68, 69, 70, 71, 72, 73, 74, 75, 76, 77, 78, 79, 80, 81, 82, 83, 84, 85, 86, 87, 88, 89, 90, 97, 98, 99, 100, 101, 102, 103, 104, 105, 106, 107, 108, 109, 110, 111, 112, 113, 114, 115, 116, 117, 118, 119, 120, 121, 122] [] rfl
  have e := P1_self P
  rw [← e]
  simp only [List.forall_mem_append] at h
  exact ⟨_, _, _, _, by decide, phA _ _ _ _ _ _, evO_ev (run5 prog P _ t x y) h.1.1, evO_ev (bin5 prog P _ t x y) h.1.2, evO_ev (mrg2 prog P _ _ 48 49 50 51 52 53 54 55 56 57 y x) h.2, ints_litL _ _⟩
noncomputable def ok17 (x y : Int) : Bool := okOf ([(49, 48, false), (50, 49, false), (51, 50, false), (52, 51, false), (53, 52, false), (54, 53, false), (55, 54, false), (56, 55, false), (57, 56, false), (x, 57, false), (y, x, true), (48, x, true)] ++ [(y, 53, false), (y, 56, false), (y, x, true), (y, 57, false)] ++ [(48, 65, true), (x, 122, false), (y, 122, true), (y, 121, true), (y, 120, true), (y, 119, true), (y, 118, true), (y, 117, true), (y, 116, true), (y, 115, true), (y, 114, true), (y, 113, true), (y, 111, true), (y, 107, true), (y, 99, true), (y, 77, false), (y, 85, false), (y, 89, false), (y, 97, true), (y, 90, false), (57, 90, true), (57, 89, true), (57, 88, true), (57, 86, true), (57, 82, true), (57, 74, true), (57, 69, true), (57, 67, true), (57, 66, true), (57, 65, true)] : Asked) [48, 49, 50, 51, 52, 53, 54, 55, 56, 57, 65, 66, 67, 68, 69, 70, 71, 72, 73, 74, 75, 76, 77, 78, 79, 80, 81, 82, 83, 84, 85, 86, 87, 88, 89, 90, y, 97, 98, 99, 100, 101, 102, 103, 104, 105, 106, 107, 108, 109, 110, 111, 112, 113, 114, 115, 116, 117, 118, 119, 120, 121, 122, x]
theorem typ17 (prog : Program) (P : Params) (t : Nat → Tok) (x y : Int) (h : ok17 x y = true) : ∃ S, SortsTo prog P (lit0 t x y) S ∧ S.Perm (faceL x y) ∧ S.Pairwise (· ≤ ·) := by
  obtain ⟨h, hs⟩ := okOf_spec h
  refine ⟨_, ?_, ?_, hs⟩
  rotate_left
  · exact perm_yx [48, 49, 50, 51, 52, 53, 54, 55, 56, 57, 65, 66, 67, 68, 69, 70, 71, 72, 73, 74, 75, 76, 77, 78, 79, 80, 81, 82, 83, 84, 85, 86, 87, 88, 89, 90] [97, 98, 99, 100, 101, 102, 103, 104, 105, 106, 107, 108, 109, 110, 111, 112, 113, 114, 115, 116, 117, 118, 119, 120, 121, 122] [] rfl
  have e := P1_self P
  rw [← e]
  simp only [List.forall_mem_append] at h
  exact ⟨_, _, _, _, by decide, phA _ _ _ _ _ _, evO_ev (run5 prog P _ t x y) h.1.1, evO_ev (bin5 prog P _ t x y) h.1.2, evO_ev (mrg4 prog P _ _ 48 49 50 51 52 53 54 55 56 57 y x) h.2, ints_litL _ _⟩
noncomputable def ok18 (x y : Int) : Bool := okOf ([(49, 48, false), (50, 49, false), (51, 50, false), (52, 51, false), (53, 52, false), (54, 53, false), (55, 54, false), (56, 55, false), (57, 56, false), (x, 57, false), (y, x, false)] ++ [] ++ [(48, 65, true), (y, 122, false), (x, 122, false), (56, 122, true), (57, 122, true), (57, 121, true), (57, 120, true), (57, 119, true), (57, 118, true), (57, 117, true), (57, 116, true), (57, 115, true), (57, 114, true), (57, 113, true), (57, 111, true), (57, 107, true), (57, 99, true), (57, 77, true), (57, 71, true), (57, 68, true), (57, 66, true), (57, 65, true)] : Asked) [48, 49, 50, 51, 52, 53, 54, 55, 56, 57, 65, 66, 67, 68, 69, 70, 71, 72, 73, 74, 75, 76, 77, 78, 79, 80, 81, 82, 83, 84, 85, 86, 87, 88, 89, 90, 97, 98, 99, 100, 101, 102, 103, 104, 105, 106, 107, 108, 109, 110, 111, 112, 113, 114, 115, 116, 117, 118, 119, 120, 121, 122, x, y]
theorem typ18 (prog : Program) (P : Params) (t : Nat → Tok) (x y : Int) (h : ok18 x y = true) : ∃ S, SortsTo prog P (lit0 t x y) S ∧ S.Perm (faceL x y) ∧ S.Pairwise (· ≤ ·) := by
  obtain ⟨h, hs⟩ := okOf_spec h
  refine ⟨_, ?_, ?_, hs⟩
  rotate_left
  · exact perm_xy [48, 49, 50, 51, 52, 53, 54, 55, 56, 57, 65, 66, 67, 68, 69, 70, 71, 72, 73, 74, 75, 76, 77, 78, 79, 80, 81, 82, 83, 84, 85, 86, 87, 88, 89, 90, 97, 98, 99, 100, 101, 102, 103, 104, 105, 106, 107, 108, 109, 110, 111, 112, 113, 114, 115, 116, 117, 118, 119, 120, 121, 122] [] [] rfl
  have e := P1_self P
  rw [← e]
  simp only [List.forall_mem_append] at h
  exact ⟨_, _, _, _, by decide, phA _ _ _ _ _ _, evO_ev (run4 prog P _ t x y) h.1.1, evO_ev (bin4 prog P _ t x y) h.1.2, evO_ev (mrg5 prog P _ _ 48 49 50 51 52 53 54 55 56 57 x y) h.2, ints_litL _ _⟩
noncomputable def ok19 (x y : Int) : Bool := okOf ([(49, 48, false), (50, 49, false), (51, 50, false), (52, 51, false), (53, 52, false), (54, 53, false), (55, 54, false), (56, 55, false), (57, 56, false), (x, 57, false), (y, x, true), (48, x, true)] ++ [(y, 53, false), (y, 56, false), (y, x, true), (y, 57, false)] ++ [(48, 65, true), (x, 122, false), (y, 122, false), (56, 122, true), (57, 122, true), (57, 121, true), (57, 120, true), (57, 119, true), (57, 118, true), (57, 117, true), (57, 116, true), (57, 115, true), (57, 114, true), (57, 113, true), (57, 111, true), (57, 107, true), (57, 99, true), (57, 77, true), (57, 71, true), (57, 68, true), (57, 66, true), (57, 65, true)] : Asked) [48, 49, 50, 51, 52, 53, 54, 55, 56, 57, 65, 66, 67, 68, 69, 70, 71, 72, 73, 74, 75, 76, 77, 78, 79, 80, 81, 82, 83, 84, 85, 86, 87, 88, 89, 90, 97, 98, 99, 100, 101, 102, 103, 104, 105, 106, 107, 108, 109, 110, 111, 112, 113, 114, 115, 116, 117, 118, 119, 120, 121, 122, y, x]
theorem typ19 (prog : Program) (P : Params) (t : Nat → Tok) (x y : Int) (h : ok19 x y = true) : ∃ S, SortsTo prog P (lit0 t x y) S ∧ S.Perm (faceL x y) ∧ S.Pairwise (· ≤ ·) := by
  obtain ⟨h, hs⟩ := okOf_spec h
  refine ⟨_, ?_, ?_, hs⟩
  rotate_left
  · exact perm_yx [48, 49, 50, 51, 52, 53, 54, 55, 56, 57, 65, 66, 67, 68, 69, 70, 71, 72, 73, 74, 75, 76, 77, 78, 79, 80, 81, 82, 83, 84, 85, 86, 87, 88, 89, 90, 97, 98, 99, 100, 101, 102, 103, 104, 105, 106, 107, 108, 109, 110, 111, 112, 113, 114, 115, 116, 117, 118, 119, 120, 121, 122] [] [] rfl
  have e := P1_self P
  rw [← e]
  simp only [List.forall_mem_append] at h
  exact ⟨_, _, _, _, by decide, phA _ _ _ _ _ _, evO_ev (run5 prog P _ t x y) h.1.1, evO_ev (bin5 prog P _ t x y) h.1.2, evO_ev (mrg5 prog P _ _ 48 49 50 51 52 53 54 55 56 57 y x) h.2, ints_litL _ _⟩
end Mine

/-! MSrtG -/
open PySem PySem.W PyProof.Rows PySem.Spec PySem.Calls
set_option maxRecDepth 1000000
set_option maxHeartbeats 4000000
set_option linter.unusedVariables false
namespace Mine
theorem toks_of : ∀ {vs : List Value} {ns : List Int}, IntsAre vs ns → ∃ t : Nat → Tok, ∀ i n, ns[i]? = some n → vs[i]? = some (Value.int n (t i))
  | _, _, .nil => ⟨fun _ => 0, fun i n h => by cases i <;> cases h⟩
  | _, _, .cons n u h => by
    obtain ⟨t, ht⟩ := toks_of h
    refine ⟨fun i => match i with | 0 => u | i + 1 => t i, fun i m hm => ?_⟩
    cases i with
    | zero => cases hm; rfl
    | succ i => exact ht i m hm
theorem vals_face {vs : List Value} {x y : Int} (h : IntsAre vs (faceL x y)) : ∃ t : Nat → Tok, pairsOf vs = lit0 t x y := by
  obtain ⟨t, ht⟩ := toks_of h
  refine ⟨t, ?_⟩
  have hl : vs.length = 64 := h.length
  have e : vs = (lit0 t x y).toList.map (·.2) := by
    apply List.ext_getElem?
    intro i
    by_cases hi : i < 64
    · have hf : i < (faceL x y).length := hi
      rw [ht i (faceL x y)[i] (List.getElem?_eq_getElem hf)]
      have all : ∀ k : Fin 64, ((lit0 t x y).toList.map (·.2))[k.val]? = some (Value.int ((faceL x y).getD k.val 0) (t k.val)) := by
        intro k
        rcases k with ⟨k, hk⟩
        iterate 64 (rcases k with _ | k; · rfl)
        omega
      have q := all ⟨i, hi⟩
      rw [q, getD_get hf]
    · rw [List.getElem?_eq_none (by omega), List.getElem?_eq_none (by show 64 ≤ i; omega)]
  rw [e]
  apply Array.toList_inj.mp
  rw [pairsOf_toList]
  rfl
theorem srt_all {x y : Int} (h : OkPair x y) (prog : Program) (P : Params) (t : Nat → Tok) : ∃ S, SortsTo prog P (lit0 t x y) S ∧ S.Perm (faceL x y) ∧ S.Pairwise (· ≤ ·) := by
  obtain ⟨hx, hy, hne⟩ := h
  simp only [freeL, List.mem_cons, List.not_mem_nil, or_false] at hx hy
  rcases hx with rfl | rfl | rfl | rfl | rfl | rfl | rfl | rfl | rfl | rfl <;> rcases hy with rfl | rfl | rfl | rfl | rfl | rfl | rfl | rfl | rfl | rfl
  · exact absurd rfl hne
  · exact typ0 prog P t 0 43 (by kernel_rfl)
  · exact typ0 prog P t 0 45 (by kernel_rfl)
  · exact typ0 prog P t 0 47 (by kernel_rfl)
  · exact typ1 prog P t 0 58 (by kernel_rfl)
  · exact typ1 prog P t 0 64 (by kernel_rfl)
  · exact typ2 prog P t 0 91 (by kernel_rfl)
  · exact typ2 prog P t 0 95 (by kernel_rfl)
  · exact typ3 prog P t 0 123 (by kernel_rfl)
  · exact typ3 prog P t 0 255 (by kernel_rfl)
  · exact typ4 prog P t 43 0 (by kernel_rfl)
  · exact absurd rfl hne
  · exact typ0 prog P t 43 45 (by kernel_rfl)
  · exact typ0 prog P t 43 47 (by kernel_rfl)
  · exact typ1 prog P t 43 58 (by kernel_rfl)
  · exact typ1 prog P t 43 64 (by kernel_rfl)
  · exact typ2 prog P t 43 91 (by kernel_rfl)
  · exact typ2 prog P t 43 95 (by kernel_rfl)
  · exact typ3 prog P t 43 123 (by kernel_rfl)
  · exact typ3 prog P t 43 255 (by kernel_rfl)
  · exact typ4 prog P t 45 0 (by kernel_rfl)
  · exact typ4 prog P t 45 43 (by kernel_rfl)
  · exact absurd rfl hne
  · exact typ0 prog P t 45 47 (by kernel_rfl)
  · exact typ1 prog P t 45 58 (by kernel_rfl)
  · exact typ1 prog P t 45 64 (by kernel_rfl)
  · exact typ2 prog P t 45 91 (by kernel_rfl)
  · exact typ2 prog P t 45 95 (by kernel_rfl)
  · exact typ3 prog P t 45 123 (by kernel_rfl)
  · exact typ3 prog P t 45 255 (by kernel_rfl)
  · exact typ4 prog P t 47 0 (by kernel_rfl)
  · exact typ4 prog P t 47 43 (by kernel_rfl)
  · exact typ4 prog P t 47 45 (by kernel_rfl)
  · exact absurd rfl hne
  · exact typ1 prog P t 47 58 (by kernel_rfl)
  · exact typ1 prog P t 47 64 (by kernel_rfl)
  · exact typ2 prog P t 47 91 (by kernel_rfl)
  · exact typ2 prog P t 47 95 (by kernel_rfl)
  · exact typ3 prog P t 47 123 (by kernel_rfl)
  · exact typ3 prog P t 47 255 (by kernel_rfl)
  · exact typ5 prog P t 58 0 (by kernel_rfl)
  · exact typ5 prog P t 58 43 (by kernel_rfl)
  · exact typ5 prog P t 58 45 (by kernel_rfl)
  · exact typ5 prog P t 58 47 (by kernel_rfl)
  · exact absurd rfl hne
  · exact typ6 prog P t 58 64 (by kernel_rfl)
  · exact typ7 prog P t 58 91 (by kernel_rfl)
  · exact typ7 prog P t 58 95 (by kernel_rfl)
  · exact typ8 prog P t 58 123 (by kernel_rfl)
  · exact typ8 prog P t 58 255 (by kernel_rfl)
  · exact typ5 prog P t 64 0 (by kernel_rfl)
  · exact typ5 prog P t 64 43 (by kernel_rfl)
  · exact typ5 prog P t 64 45 (by kernel_rfl)
  · exact typ5 prog P t 64 47 (by kernel_rfl)
  · exact typ9 prog P t 64 58 (by kernel_rfl)
  · exact absurd rfl hne
  · exact typ7 prog P t 64 91 (by kernel_rfl)
  · exact typ7 prog P t 64 95 (by kernel_rfl)
  · exact typ8 prog P t 64 123 (by kernel_rfl)
  · exact typ8 prog P t 64 255 (by kernel_rfl)
  · exact typ10 prog P t 91 0 (by kernel_rfl)
  · exact typ10 prog P t 91 43 (by kernel_rfl)
  · exact typ10 prog P t 91 45 (by kernel_rfl)
  · exact typ10 prog P t 91 47 (by kernel_rfl)
  · exact typ11 prog P t 91 58 (by kernel_rfl)
  · exact typ11 prog P t 91 64 (by kernel_rfl)
  · exact absurd rfl hne
  · exact typ12 prog P t 91 95 (by kernel_rfl)
  · exact typ13 prog P t 91 123 (by kernel_rfl)
  · exact typ13 prog P t 91 255 (by kernel_rfl)
  · exact typ10 prog P t 95 0 (by kernel_rfl)
  · exact typ10 prog P t 95 43 (by kernel_rfl)
  · exact typ10 prog P t 95 45 (by kernel_rfl)
  · exact typ10 prog P t 95 47 (by kernel_rfl)
  · exact typ11 prog P t 95 58 (by kernel_rfl)
  · exact typ11 prog P t 95 64 (by kernel_rfl)
  · exact typ14 prog P t 95 91 (by kernel_rfl)
  · exact absurd rfl hne
  · exact typ13 prog P t 95 123 (by kernel_rfl)
  · exact typ13 prog P t 95 255 (by kernel_rfl)
  · exact typ15 prog P t 123 0 (by kernel_rfl)
  · exact typ15 prog P t 123 43 (by kernel_rfl)
  · exact typ15 prog P t 123 45 (by kernel_rfl)
  · exact typ15 prog P t 123 47 (by kernel_rfl)
  · exact typ16 prog P t 123 58 (by kernel_rfl)
  · exact typ16 prog P t 123 64 (by kernel_rfl)
  · exact typ17 prog P t 123 91 (by kernel_rfl)
  · exact typ17 prog P t 123 95 (by kernel_rfl)
  · exact absurd rfl hne
  · exact typ18 prog P t 123 255 (by kernel_rfl)
  · exact typ15 prog P t 255 0 (by kernel_rfl)
  · exact typ15 prog P t 255 43 (by kernel_rfl)
  · exact typ15 prog P t 255 45 (by kernel_rfl)
  · exact typ15 prog P t 255 47 (by kernel_rfl)
  · exact typ16 prog P t 255 58 (by kernel_rfl)
  · exact typ16 prog P t 255 64 (by kernel_rfl)
  · exact typ17 prog P t 255 91 (by kernel_rfl)
  · exact typ17 prog P t 255 95 (by kernel_rfl)
  · exact typ19 prog P t 255 123 (by kernel_rfl)
  · exact absurd rfl hne
end Mine

/-! MSrtH -/
open PySem PySem.W PyProof.Rows PySem.Spec PySem.Calls
set_option maxRecDepth 100000
set_option maxHeartbeats 4000000
set_option linter.unusedVariables false
namespace Mine
section
variable {prog : Program} {w : World} {A : Around} {E : Value → Shared → Prop} {s : Shared}
/-- list.sort of the face's sixty-four octets -/
theorem sort_tree_face {a : Addr} {vs : List Value} {x y : Int} {n : Nat} {P : Fin → Shared → Prop} (hok : OkPair x y) (ho : s.heap.get? a = some (seqObj "list" vs.toArray n)) (hI : IntsAre vs (faceL x y))
    (h : ∀ (out : Array Value) (S : List Int), IntsAre out.toList S → S.Perm (faceL x y) → S.Pairwise (· ≤ ·) → P (.done (.ret .none)) { s with heap := sortedHeap s.heap a vs out }) :
    wpAny (model prog w) A (Builtin.«list.sort» ⟨[.ref a], []⟩) P E s := by
  rw [list_sort_plain]
  have ha : a < s.heap.objs.size := Heap.lt_size ho
  have hlen : vs.length = 64 := hI.length
  refine wpAny_bind (listItems_at ho rfl ?_)
  refine wpAny_bind (listUpdate_at ho rfl ?_)
  obtain ⟨e1, ho1⟩ : ∃ e1, (s.heap.update a (Obj.mapSeq fun _ => #[])).get? a = some (seqObj "list" #[] e1) := ⟨_, get?_update_seq ho (fun _ => #[])⟩
  refine wpAny_bind (seqEpoch_at ho1 rfl ?_)
  refine wpAny_bind (wpAny_newTuple ?_ (by rw [sizeLine_eq]; simp; omega))
  refine wpAny_bind (wpAny_newList ?_)
  refine wpAny_holding ?_
  have ho6 : (((s.heap.update a (Obj.mapSeq fun _ => #[])).push (seqObj "tuple" vs.toArray 0)).push (seqObj "list" #[] 0)).get? a = some (seqObj "list" #[] e1) := by
    rw [Heap.get?_push_ne _ _ _ (by rw [size_push', Heap.size_update]; exact Nat.ne_of_lt (Nat.lt_succ_of_lt ha)), Heap.get?_push_ne _ _ _ (by rw [Heap.size_update]; exact Nat.ne_of_lt ha)]
    exact ho1
  show wpAny (model prog w) A _ P E { s with heap := ((s.heap.update a (Obj.mapSeq fun _ => #[])).push (seqObj "tuple" vs.toArray 0)).push (seqObj "list" #[] 0) }
  dsimp only
  have h2 : ¬ vs.toArray.size < 2 := by rw [List.size_toArray]; omega
  rw [if_neg h2, if_neg h2]
  obtain ⟨t, ht⟩ := vals_face hI
  obtain ⟨S, ⟨m, g, a₁, a₂, hm, hA, hB, hC, hD, hS⟩, hp, hs⟩ := srt_all hok prog w.params t
  obtain ⟨v₁, v₂, rest, rfl⟩ : ∃ v₁ v₂ rest, vs = v₁ :: v₂ :: rest := by
    match vs, hlen with
    | v₁ :: v₂ :: rest, _ => exact ⟨v₁, v₂, rest, rfl⟩
  rw [keyKind_ints hI]
  refine wpAny_bind (wpAny_pure ?_)
  have hz : (v₁ :: v₂ :: rest).toArray.zip (v₁ :: v₂ :: rest).toArray = lit0 t x y := ht
  rw [hz]
  refine wpAny_bind (wpAny_mono (sort64 (Q := fun _ st' => st' = stOf a₂ pend1 g) rfl hm hA hB hC hD rfl) ?_ fun _ _ e => e)
  rintro ⟨⟨⟩, st'⟩ s' ⟨rfl, hst⟩
  dsimp only at hst
  subst hst
  dsimp only
  refine wpAny_bind (seqEpoch_at ho6 rfl ?_)
  have hsz : a₂.size = 64 := by
    have := hS.length
    rw [List.length_map, hp.length_eq, faceL_len] at this
    simpa using this
  refine wpAny_bind (listUpdate_at ho6 rfl ?_ (hsz2 := by rw [Array.size_map]; show a₂.size ≤ _; rw [hsz, sizeLine_eq]; omega))
  simp only [bne_self_eq_false, Bool.false_eq_true, if_false]
  refine wpAny_pure (h _ S ?_ hp hs)
  show IntsAre (a₂.map (·.2)).toList S
  rw [Array.toList_map]
  exact hS
theorem items_face {face : Array UInt8} {x y : Int} {acc : Array Value} (hf : KBw.bInts face = faceL x y) (h : ItemsOf (fun i v => ∃ c u, face[i]? = some c ∧ v = Value.int (c.toNat : Int) u) acc face.size) : IntsAre acc.toList (faceL x y) := by
  obtain ⟨hsz, hit⟩ := h
  have hfs : face.size = 64 := by rw [← KBw.ints_length, hf, faceL_len]
  have key : ∀ (l : List Value) (ns : List Int), l.length = ns.length → (∀ (i : Nat) (v : Value), l[i]? = some v → ∃ (n : Int) (u : Tok), ns[i]? = some n ∧ v = Value.int n u) → IntsAre l ns := by
    intro l
    induction l with
    | nil => intro ns hl _; rw [List.length_eq_zero_iff.mp hl.symm]; exact .nil
    | cons v r ih =>
      intro ns hl hv
      cases ns with
      | nil => cases hl
      | cons n ns =>
        obtain ⟨n', u, hn, rfl⟩ := hv 0 v rfl
        cases hn
        exact .cons _ _ (ih ns (Nat.succ.inj hl) fun i v hi => hv (i + 1) v hi)
  refine key _ _ (by rw [Array.length_toList, hsz, hfs, faceL_len]) fun i v hi => ?_
  obtain ⟨c, u, hc, rfl⟩ := hit i v (by simpa using hi)
  refine ⟨_, u, ?_, rfl⟩
  rw [← hf]
  exact KBw.ints_get hc
/-- sorted(face) -/
theorem sorted_face {face : Array UInt8} {t : Tok} {x y : Int} {h₀ : Heap} {L : Addr} {m : Str → Option Value} {news : List (Addr × Obj)} {Q : Value → Shared → Prop} (hok : OkPair x y) (hf : KBw.bInts face = faceL x y) (hh : A.handled = none) (F : Fr h₀ L s.heap m) (N : News h₀ L s.heap news)
    (h : ∀ D vs' S e h' tk', Fr h₀ L h' m → News h₀ L h' ((D, seqObj "list" vs'.toArray e) :: news) → (∀ q ∈ news, q.1 < D) → IntsAre vs' S → S.Perm (faceL x y) → S.Pairwise (· ≤ ·) → Q (.ref D) { s with heap := h', toks := tk' }) :
    wpAny (model prog w) A (call (.builtin "sorted") [.bytes face t]) Q E s := by
  refine Calls.call_function_entry kind_sorted plain_sorted entry_sorted (args_sorted1 _) ?_
  unfold Builtin.«sorted»
  refine wpAny_bind (m := checkCount "sorted" 1 1 _) (wpAny_pure ?_)
  have hfs : face.size = 64 := by rw [← KBw.ints_length, hf, faceL_len]
  refine wpAny_bind (collect_bytes (A := A.in1) hh face t (fun s' acc keep hg hd ho hit => ?_) (by rw [hfs, sizeLine_eq]; omega))
  have hI := items_face hf hit
  have hlen : acc.toList.length = 64 := hI.length
  refine wpAny_bind (wpAny_newList ?_ (by rw [sizeLine_eq]; omega))
  refine wpAny_bind (wpAny_holding (wpAny_call_entry slot_list_sort ⟨_, Heap.get?_push_size _ rfl, rfl⟩ entry_list_sort (sort_tree_face (n := 0) hok (Heap.get?_push_size _ rfl) hI fun out S a1 a2 a3 => ⟨_, rfl, ?_⟩) (args_list_sort _)))
  refine wpAny_pure ⟨_, rfl, ?_⟩
  obtain ⟨hp, gn, dr, tk, os⟩ := s'
  dsimp only at hg hd ho keep ⊢
  subst hg hd ho
  obtain ⟨e, he⟩ := sortedHeap_at (h := hp.push (seqObj "list" acc.toList.toArray 0)) (a := hp.objs.size) (vs := acc.toList) (n := 0) (out := out) (Heap.get?_push_size _ rfl)
  have old : ∀ b o, s.heap.get? b = some o → (sortedHeap (hp.push (seqObj "list" acc.toList.toArray 0)) hp.objs.size acc.toList out).get? b = some o := fun b o hb => by
    have hb' := keep b o hb
    have hlt : b < hp.objs.size := Heap.lt_size hb'
    rw [sortedHeap_old (Nat.ne_of_lt hlt) (by rw [size_push']; exact Nat.lt_succ_of_lt hlt), Heap.get?_push_ne _ _ _ (Nat.ne_of_lt hlt)]
    exact hb'
  refine h hp.objs.size out.toList S e _ tk (F.kept old) (fun q hq => ?_) (fun q hq => Heap.lt_size (keep _ _ (N q hq).1)) a1 a2 a3
  rcases List.mem_cons.mp hq with rfl | hq
  · refine ⟨by simpa using he, fun q => ?_, ?_⟩
    · obtain ⟨oL, _, _, hL, _⟩ := F.ns
      have hlt := Heap.lt_size (keep _ _ hL)
      have q' : hp.objs.size = L := q
      rw [q'] at hlt
      exact absurd hlt (Nat.lt_irrefl _)
    · cases q : h₀.get? hp.objs.size with
      | none => rfl
      | some o => exact absurd (Heap.lt_size (keep _ _ (F.keep _ _ q))) (Nat.lt_irrefl _)
  · exact ⟨old _ _ (N q hq).1, (N q hq).2⟩
end
end Mine

/-! MNum -/
open PySem PySem.W PyProof.Rows PySem.Spec PySem.Calls
set_option maxRecDepth 100000
set_option maxHeartbeats 4000000
set_option linter.unusedVariables false
namespace Mine
local macro_rules | `(tactic| walk_at $s:str) => `(tactic| k_extra $s)
theorem words_MNum : True := by
  k_with_none
  k_with "my enterP" => k_dflt (refine' enter_plain ?k1 ?k2 ?k3 ?k5 ?kA ?kF ?kK ?k6 ?k7 ?k8 ?k9 ?kB ?_ ?c2 ?c3 ?c4 ?c5; (case kA => exact rfl); (case kF => exact rfl); (case kK => first | exact rfl | assumption); (case k1 => k_asm); (case k2 => k_asm); (case k3 => k_asm); (case k5 => k_asm); (case k6 => k_is); (case k7 => k_is); (case k8 => ktr_room); (case k9 => first | exact BindsTo.of_eq rfl | exact binds_K (by k_in) rfl (by k_is) rfl rfl rfl | fail "enter: no rule for these arguments"); (case c5 => decide); (case kB => exact locs rfl); (case c2 => exact rfl); (case c3 => exact rfl); (case c4 => exact rfl); k_whole; intro L' h' F' N' B' X' T'; (try dsimp only); (try k_lift B'); (try k_fold))
  k_with "my enterC" => k_dflt (refine' enter_cells ?k1 ?k2 ?k3 ?k5 ?kA ?kF ?kK ?k6 ?k7 ?k8 ?k9 ?kB ?kD ?_ ?c2 ?c3 ?c4; (case kA => exact rfl); (case kF => exact rfl); (case kK => first | exact rfl | assumption); (case k1 => k_asm); (case k2 => k_asm); (case k3 => k_asm); (case k5 => k_asm); (case k6 => k_is); (case k7 => k_is); (case k8 => ktr_room); (case k9 => first | exact BindsTo.of_eq rfl | exact binds_K (by k_in) rfl (by k_is) rfl rfl rfl | fail "enter: no rule for these arguments"); (case kB => exact rfl); (case kD => decide +kernel); (case c2 => exact rfl); (case c3 => exact rfl); (case c4 => exact rfl); k_whole; intro L' h' tk' cells' F' N' Y' B' X' T'; k_cells Y'; (try simp only [List.cons_append, List.nil_append] at N'); (try dsimp only); (try k_lift B'); (try k_fold))
  k_with "my enter1" => k_dflt (refine' enter_cells1 ?k0 ?k1 ?k2 ?k3 ?k5 ?kA ?kF ?kK ?k6 ?k7 ?k8 ?k9 ?kB ?kD ?_ ?c2 ?c3 ?c4; (case kA => exact rfl); (case kF => exact rfl); (case kK => first | exact rfl | assumption); (case k0 => k_asm); (case k1 => k_asm); (case k2 => k_asm); (case k3 => k_asm); (case k5 => k_asm); (case k6 => k_is); (case k7 => k_is); (case k8 => ktr_room); (case k9 => first | exact BindsTo.of_eq rfl | exact binds_K (by k_in) rfl (by k_is) rfl rfl rfl | fail "enter: no rule for these arguments"); (case kB => exact rfl); (case kD => decide +kernel); (case c2 => exact rfl); (case c3 => exact rfl); (case c4 => exact rfl); k_whole; intro g' L' h' tk' cells' hg' FG' F' N' Y' B' X' T' l1; (try k_lt l1); k_cells Y'; (try simp only [List.cons_append, List.nil_append] at N'); (try dsimp only); (try k_lift B'); (try k_fold))
  k_with "my in1" => ((refine wpAny_call ?_); (walk_at "my enter1"); k_steps)
  k_with "my enter" => first | (walk_at "my enterP") | (walk_at "my enterC") | fail "enter"
  k_with "my open" => (w_top off; k_fill; dsimp only [MC, MC1]; intros)
  k_with "my in" => ((refine wpAny_call ?_); (walk_at "my enter"); k_steps)
  k_with "compareOp Gt bytes bytes" => (refine gt_bytes ?_)
  k_with "compareOp Lt bytes bytes" => (refine lt_bytes ?_)
  exact trivial
theorem number_c {prog w p loose mean mg mb} (bs : Array UInt8) (ns : List Int) (ts : Tok) (hx : KBw.bInts bs = ns) (hl : ns.length ≤ 100) :
   (fun (_ : OpenLaw) => MC prog w (hd.heap_39 w.params) p loose mean mg mb 91 20 100 [.bytes bs ts] NoPre (PostV fun t => .int (ns.foldl (fun v o => v * 256 + o) 0) t)) Challenge.rw_mr0018_01 := by
  walk_at "my open"
  rename_i hret
  walk_at "my in"
  exact hret _ _ _ (Fr.keep (by assumption)) ⟨_, rfl⟩
theorem number_3 {prog w p loose mean mg mb} (bs : Array UInt8) (i0 i1 i2 : Int) (ts : Tok) (hx : KBw.bInts bs = [i0, i1, i2]) :
   MC prog w (hd.heap_39 w.params) p loose mean mg mb 91 20 100 [.bytes bs ts] NoPre (PostV fun t => .int ((i0 * 256 + i1) * 256 + i2) t) := by
  have e : [i0, i1, i2].foldl (fun v o => v * 256 + o) 0 = (i0 * 256 + i1) * 256 + i2 := by
    show ((0 * 256 + i0) * 256 + i1) * 256 + i2 = _
    rw [Int.zero_mul, Int.zero_add]
  rw [← e]
  exact number_c bs _ ts hx (by simp)
theorem number_6 {prog w p loose mean mg mb} (bs : Array UInt8) (i0 i1 i2 i3 i4 i5 : Int) (ts : Tok) (hx : KBw.bInts bs = [i0, i1, i2, i3, i4, i5]) :
   MC prog w (hd.heap_39 w.params) p loose mean mg mb 91 20 100 [.bytes bs ts] NoPre (PostV fun t => .int (((((i0 * 256 + i1) * 256 + i2) * 256 + i3) * 256 + i4) * 256 + i5) t) := by
  have e : [i0, i1, i2, i3, i4, i5].foldl (fun v o => v * 256 + o) 0 = ((((i0 * 256 + i1) * 256 + i2) * 256 + i3) * 256 + i4) * 256 + i5 := by
    show (((((0 * 256 + i0) * 256 + i1) * 256 + i2) * 256 + i3) * 256 + i4) * 256 + i5 = _
    rw [Int.zero_mul, Int.zero_add]
  rw [← e]
  exact number_c bs _ ts hx (by simp)
end Mine

/-! MLam -/
open PySem PySem.W PyProof.Rows PySem.Spec PySem.Calls
set_option maxRecDepth 100000
set_option maxHeartbeats 4000000
set_option linter.unusedVariables false
namespace Mine
section
variable {prog : Program} {w : World} {A₀ A : Around} {s : Shared} {base h₀ : Heap} {outer : List Env} {L : Addr} {m mg mb : Str → Option Value} {env : Env} {K : Frag} {p : Program} {loose : List Str} {mean : ExcName → Option Value}
  {R : Result → Shared → Prop} {name qual : Str} {params : Arguments} {body : PySem.Expr} {scope : Scope} {cl : List (Str × Addr)} {pm ctv : Value} {c' : Addr} {f : Addr} {args : Args} {binds : List (Str × Value)}
/-- a lambda of the heap entered, the caller's whole heap as ground -/
theorem enter_lam (B : Below A₀ base outer h₀) (F : Fr h₀ L s.heap m) (X₀ : K.In h₀) (T : Top p loose mean mg mb h₀) (hA : A.frames = some (env :: outer)) (hf : env.frame = some L) (hke : env.scope.kind = .function)
    (ho : s.heap.get? f = some (kla_obj name qual params body scope cl pm c' ctv)) (hcd : s.heap.CodeRec (.ref c') qual) (hroom : A.depth < recursionLimit)
    (hbind : bindArgs (kla_fn name qual params body scope cl pm (.ref c') ctv) args = pure binds) (hloc : ∀ y ∈ binds, scope.names.lookup y.1 = some .local)
    (h : ∀ L' h₁, Fr s.heap L' h₁ (fun y => binds.reverse.lookup y) → News s.heap L' h₁ [] → Below A base (env :: outer) s.heap → K.In s.heap → Top p loose mean mg mb s.heap →
      wpAny (model prog w) (A.deeper (envX qual scope L' f (.ref c') cl)) (eval body (envX qual scope L' f (.ref c') cl))
        (fun v s' => LeaveK h₀ L m s.heap R v s')
        (fun e s' => wpAny (model prog w) (A.deeper (envX qual scope L' f (.ref c') cl)) (leaving (envX qual scope L' f (.ref c') cl) e) (fun _ s'' => R (.error e) s'') (fun e' s'' => R (.error e') s'') s')
        { s with heap := h₁, toks := s.toks + binds.length })
    (hco : scope.isCoroutine = false) (hgen : scope.isGenerator = false) (hk : scope.kind = .function)
    (hcell : ∀ x ∈ scope.names, x.2 ≠ .cell) : codeAny (model prog w) A (.call (.ref f) args) R s := by
  obtain ⟨FG, BG, st, lv⟩ := groundX (R := R) (news := []) B F News.nil hA hf hke
  refine kla_callFunE hroom ho rfl hco hgen rfl hcd ?_
  rw [hbind]
  refine wpAny_pure (wpAny_newFunctionEnv hcell hloc (fun h₁ hns hsb => ⟨((T.nolimit).keeps F.keep).fresh _ hsb, ?_⟩) hk)
  show codeAny _ _ (.expr body (envX qual scope s.heap.objs.size f (.ref c') cl)) _ _
  have hk₁ : ∀ b o, s.heap.get? b = some o → h₁.get? b = some o := fun b o e => hsb.extBut b o (Nat.ne_of_lt (Heap.lt_size e)) (Heap.get?_push_of_some _ e)
  exact kla_codeExpr (wpAny_mono (h s.heap.objs.size h₁ ⟨hns, hk₁, Nat.le_refl _⟩ News.nil BG (X₀.keeps F.keep) (T.keeps F.keep)) (fun v s' hl => lv _ _ hl) fun _ _ y => y)
/-- a free name whose cell lies in the ground -/
theorem nameX_FG {M : Model} {E : Value → Shared → Prop} {a : Addr} {cn : Str} {cs : Scope} {ccd : Value} {x : Str} {pos : Pos} {v : Value} {Q : Value → Shared → Prop} {c : Addr} {o : Obj} (F : Fr h₀ L s.heap m) (hc : cl.lookup x = some c) (hm : h₀.get? c = some o) (hd : o.data = .cell (some v)) (h : Q v s)
    (hk : cs.kind = .function := by rfl) (hx : (envX cn cs L a ccd cl).kindOf x = some .free := by rfl) (hb : (x == ("__debug__" : Str)) = false := by decide) (hn : (x == ("__classdict__" : Str)) = false := by decide) :
    wpAny M A (eval (.Name x pos) (envX cn cs L a ccd cl)) Q E s := wpAny_Name (wpAny_loadName_free hk hx hc ⟨o, F.keep _ _ hm, hd⟩ h hn) hb
end
end Mine

/-! MLawA -/
open PySem PySem.W PyProof.Rows PySem.Spec PySem.Calls
set_option maxRecDepth 100000
set_option maxHeartbeats 4000000
set_option linter.unusedVariables false
namespace Mine
/-- where law's walk stands between two statements -/
noncomputable def At (g : Heap) (L : Addr) (s₁ : Shared) (m : Str → Option Value) (news : List (Addr × Obj)) (s' : Shared) : Prop :=
  ∃ h' tk', s' = { heap := h', gens := s₁.gens, drawn := s₁.drawn, toks := tk', os := s₁.os } ∧ Fr g L h' m ∧ News g L h' news
/-- what law's walk leaves -/
noncomputable def LawEnd (g : Heap) (L : Addr) (s₁ : Shared) (fl : Flow) (s' : Shared) : Prop :=
  ∃ (m' : Str → Option Value) (news' : List (Addr × Obj)) (ps : Array Value), fl = .ret (.bool true) ∧ At g L s₁ m' news' s' ∧ (105, tabObj ps) ∈ news'
theorem law_cut {M : Model} {A : Around} {t : Sem Flow} {Q : Flow → Shared → Prop} {E : Value → Shared → Prop} {g h : Heap} {L : Addr} {s₁ s : Shared} {m₀ : Str → Option Value} {tk : Nat} (F : Fr g L h m₀) (hs : s = { heap := h, gens := s₁.gens, drawn := s₁.drawn, toks := tk, os := s₁.os })
    (fin : ∀ fl s', LawEnd g L s₁ fl s' → Q fl s') (walk : wpAny M A t (LawEnd g L s₁) (fun _ _ => False) s) : wpAny M A t Q E s := wpAny_mono walk fin fun _ _ h => h.elim
theorem news_sub {g h : Heap} {L : Addr} {n n' : List (Addr × Obj)} (N : News g L h n) (hs : ∀ q ∈ n', q ∈ n) : News g L h n' := fun q hq => N q (hs q hq)
theorem news_sl {g h : Heap} {L : Addr} {n n' : List (Addr × Obj)} (N : News g L h n) (hs : n'.Sublist n) : News g L h n' := fun q hq => N q (hs.mem hq)
theorem ne12 (L : Nat) : L + 1 ≠ L + 1 + 1 := by omega
theorem ne13 (L : Nat) : L + 1 ≠ L + 1 + 1 + 1 := by omega
theorem ne14 (L : Nat) : L + 1 ≠ L + 1 + 1 + 1 + 1 := by omega
theorem ne15 (L : Nat) : L + 1 ≠ L + 1 + 1 + 1 + 1 + 1 := by omega
theorem ne16 (L : Nat) : L + 1 ≠ L + 1 + 1 + 1 + 1 + 1 + 1 := by omega
theorem ne23 (L : Nat) : L + 1 + 1 ≠ L + 1 + 1 + 1 := by omega
theorem ne24 (L : Nat) : L + 1 + 1 ≠ L + 1 + 1 + 1 + 1 := by omega
theorem ne25 (L : Nat) : L + 1 + 1 ≠ L + 1 + 1 + 1 + 1 + 1 := by omega
theorem ne26 (L : Nat) : L + 1 + 1 ≠ L + 1 + 1 + 1 + 1 + 1 + 1 := by omega
theorem ne34 (L : Nat) : L + 1 + 1 + 1 ≠ L + 1 + 1 + 1 + 1 := by omega
theorem ne35 (L : Nat) : L + 1 + 1 + 1 ≠ L + 1 + 1 + 1 + 1 + 1 := by omega
theorem ne36 (L : Nat) : L + 1 + 1 + 1 ≠ L + 1 + 1 + 1 + 1 + 1 + 1 := by omega
theorem ne45 (L : Nat) : L + 1 + 1 + 1 + 1 ≠ L + 1 + 1 + 1 + 1 + 1 := by omega
theorem ne46 (L : Nat) : L + 1 + 1 + 1 + 1 ≠ L + 1 + 1 + 1 + 1 + 1 + 1 := by omega
theorem ne56 (L : Nat) : L + 1 + 1 + 1 + 1 + 1 ≠ L + 1 + 1 + 1 + 1 + 1 + 1 := by omega
/-- one statement of law's body: what stands behind it is P -/
theorem stage {M : Model} {A : Around} {st : Stmt} {rest : List Stmt} {env : Env} {Q : Flow → Shared → Prop} {E : Value → Shared → Prop} {s : Shared} (P : Shared → Prop)
    (h1 : ∀ Q' : Flow → Shared → Prop, (∀ s', P s' → Q' .next s') → wpAny M A (exec st env) Q' E s) (h2 : ∀ s', P s' → wpAny M A (execs rest env) Q E s') : wpAny M A (execs (st :: rest) env) Q E s :=
  wpAny_execs_cons (h1 _ fun s' h => h2 s' h)
/-- the script's part of the three numbers -/
noncomputable def drawnL (ns : List Int) : List Int := (ns.take 3).map fun k => k.fmod (2 ^ Int.toNat 48)
theorem drawn_len (ns : List Int) : (drawnL ns).length ≤ 3 := by
  unfold drawnL
  rw [List.length_map, List.length_take]
  omega
theorem drawn_in (ns : List Int) : ∀ k ∈ drawnL ns, 0 ≤ k ∧ k < 2 ^ 48 := by
  intro k hk
  obtain ⟨j, _, rfl⟩ := List.mem_map.mp hk
  exact ⟨fmod_lo _ (by decide), fmod_hi _ (by decide)⟩
theorem nums_three (ns : List Int) : ∃ n0 n1 n2 : Int, drawnL ns ++ List.drop (drawnL ns).length [8327163, 4021, 77] = [n0, n1, n2] ∧ (0 ≤ n0 ∧ n0 < 2 ^ 48) := by
  have h1 := drawn_len ns
  have h2 := drawn_in ns
  revert h1 h2
  generalize drawnL ns = l
  intro h1 h2
  match l, h1, h2 with
  | [], _, _ => exact ⟨8327163, 4021, 77, rfl, by decide⟩
  | [a], _, h2 => exact ⟨a, 4021, 77, rfl, h2 a (by simp)⟩
  | [a, b], _, h2 => exact ⟨a, b, 77, rfl, h2 a (by simp)⟩
  | [a, b, c], _, h2 => exact ⟨a, b, c, rfl, h2 a (by simp)⟩
  | _ :: _ :: _ :: _ :: _, h1, _ => simp at h1
theorem ints3 {ws : List Value} {n0 n1 n2 : Int} (h : IntsAre ws [n0, n1, n2]) : ∃ t0 t1 t2, ws = [.int n0 t0, .int n1 t1, .int n2 t2] := by
  cases h with
  | cons _ t0 h => cases h with
    | cons _ t1 h => cases h with
      | cons _ t2 h => cases h; exact ⟨_, _, _, rfl⟩
/-- [8327163, 4021, 77][n:] -/
theorem slice_three {prog : Program} {w : World} {A : Around} {E : Value → Shared → Prop} {s : Shared} {h₀ : Heap} {L l : Addr} {m : Str → Option Value} {news : List (Addr × Obj)} {value slice : PySem.Expr} {t0 t1 t2 tn : Tok} {n : Nat} {Q : Value → Shared → Prop}
    (F : Fr h₀ L s.heap m) (N : News h₀ L s.heap news) (hl : s.heap.IsList l (List.toArray [.int 8327163 t0, .int 4021 t1, .int 77 t2]))
    (h : ∀ D ws h', Fr h₀ L h' m → News h₀ L h' ((D, W.listOf (List.toArray ws) 0) :: news) → (∀ p ∈ news, p.1 < D) → IntsAre ws (([8327163, 4021, 77] : List Int).drop n) → Q (.ref D) { s with heap := h' })
    (hs : subscripted slice false (.ref l) (.ref s.heap.objs.size) = operate [.ref s.heap.objs.size, .ref l] (getItem (.ref l) (.ref s.heap.objs.size))) :
    wpAny (model prog w) A (subscriptTail value slice (.ref l) (.ref s.heap.objs.size)) Q E { s with heap := s.heap.push { cls := .type "slice", data := .fields #[.int (n : Int) tn, .none, .none] } } := by
  refine kba_turn (value' := PySem.Expr.Name (PySem.Str.ofString "_") ⟨0, 0, 0, 0⟩) (fun _ => rfl) ?_
  have hI : IntsAre [.int 8327163 t0, .int 4021 t1, .int 77 t2] [8327163, 4021, 77] := by repeat constructor
  exact kmk_slice_ints F N hl (IsPart.int _ _) IsPart.none hI (kmk_from hI (Int.natCast_nonneg n)) rfl (fun D ws h' F' N' l1 hI' _ _ => h D ws h' F' N' l1 (by simpa using hI')) hs (fun _ => rfl) (Nat.le_of_ble_eq_true rfl)
theorem in_pair {x y : Int} (h : OkPair x y) : KBa.In [x, y] := fun n hn => by
  rcases List.mem_cons.mp hn with rfl | hn
  · exact (free_off _ h.fx).2
  · rw [List.mem_singleton.mp hn]; exact (free_off _ h.fy).2
theorem perm64 {S : List Int} {x y : Int} (h : S.Perm (faceL x y)) : S.length = 64 := h.length_eq
end Mine

/-! MLawB -/
open PySem PySem.W PyProof.Rows PySem.Spec PySem.Calls
set_option maxRecDepth 100000
set_option maxHeartbeats 4000000
set_option linter.unusedVariables false
namespace Mine
theorem at_idx {k : Int} : ∀ {ys : List Value} {rs : List Int}, IntsAre ys rs → k ∈ rs → kf_ints ys = true ∧ kf_at k ys = some (rs.idxOf k)
  | _, _, .nil, h => nomatch h
  | _, _, .cons n t hr, h => by
    rename_i vs ns
    have hall : ∀ {vs : List Value} {ns : List Int}, IntsAre vs ns → kf_ints vs = true := by
      intro vs ns h
      induction h with
      | nil => rfl
      | cons n t _ ih => exact ih
    refine ⟨hall (.cons n t hr), ?_⟩
    show cond (n == k) (some 0) (match kf_at k vs with | some j => some (j + 1) | none => none) = _
    rw [List.idxOf_cons]
    by_cases e : n = k
    · have : (n == k) = true := by simpa using e
      rw [this]
      rfl
    · have e' : (n == k) = false := by simpa using e
      rw [e']
      have hm : k ∈ ns := by
        rcases List.mem_cons.mp h with q | q
        · exact absurd q.symm e
        · exact q
      rw [(at_idx hr hm).2]
      rfl
section
variable {prog : Program} {w : World} {A : Around} {E : Value → Shared → Prop} {s : Shared} {h₀ : Heap} {L D : Addr} {news : List (Addr × Obj)} {ys : List Value} {S rs : List Int} {x y a : Int} {t : Tok} {Q : Value → Shared → Prop}
/-- rising.index of a figure -/
theorem rising_index (hR : Rises x y S rs) (hok : OkPair x y) (N : News h₀ L s.heap news) (hm : (D, LCg.lst ys) ∈ news) (hI : IntsAre ys rs) (ha : 0 ≤ a ∧ a < 64)
    (h : Q (.int ((rs.idxOf a : Nat) : Int) s.toks) { s with toks := s.toks + 1 }) : wpAny (model prog w) A (call (.builtin "list.index") [.ref D, .int a t]) Q E s := by
  have hk := (hR.back hok ha.1 ha.2).1
  obtain ⟨e1, e2⟩ := at_idx hI hk
  have hl : ys.length = 64 := by rw [hI.length, hR.len']
  exact kf_index (its := ys.toArray) N hm (by simpa using e1) (by simpa using e2) rfl (by rw [List.toList_toArray, hl, sizeLine_eq]; decide) h
end
theorem ints4 {ws : List Value} {a b c d : Int} (h : IntsAre ws [a, b, c, d]) : ∃ t0 t1 t2 t3, ws = [.int a t0, .int b t1, .int c t2, .int d t3] := by
  cases h with
  | cons _ t0 h => obtain ⟨t1, t2, t3, rfl⟩ := ints3 h; exact ⟨_, _, _, _, rfl⟩
theorem ints8 {ws : List Value} {a b c d e f g i : Int} (h : IntsAre ws [a, b, c, d, e, f, g, i]) : ∃ t0 t1 t2 t3 t4 t5 t6 t7, ws = [.int a t0, .int b t1, .int c t2, .int d t3, .int e t4, .int f t5, .int g t6, .int i t7] := by
  cases h with
  | cons _ t0 h => cases h with
    | cons _ t1 h => cases h with
      | cons _ t2 h => cases h with
        | cons _ t3 h => obtain ⟨t4, t5, t6, t7, rfl⟩ := ints4 h; exact ⟨_, _, _, _, _, _, _, _, rfl⟩
section
variable {prog : Program} {w : World} {p : Program} {loose : List Str} {mean : ExcName → Option Value} {mg mb : Str → Option Value}
  {dp un : Nat} {gd : Option (List Code)} {cn : Str} {cs : Scope} {a : Addr} {ccd : Value} {cl : List (Str × Addr)} {outer : List Env} {A₀ : Around} {base h₀ : Heap} {L : Addr} {m : Str → Option Value} {s : Shared} {Q E : Value → Shared → Prop} {news : List (Addr × Obj)} {n : Int} {tn tb tc : Tok}
theorem use_figs4 (hn : 0 ≤ n) (B : Below A₀ base outer h₀) (F : Fr h₀ L s.heap m) (X : Frag.In (hd.heap_39 w.params) h₀) (N : News h₀ L s.heap news) (T : Top p loose mean mg mb h₀) (hk : cs.kind = .function)
    (hd : dp + 20 < recursionLimit) (hu : un + 100 < cLine) (h : ∀ D t0 t1 t2 t3 h' tk', s.heap.StaysIn h' → Fr h₀ L h' m → News h₀ L h' ((D, LCg.lst [.int (n / 64 ^ 3 % 64) t0, .int (n / 64 ^ 2 % 64) t1, .int (n / 64 ^ 1 % 64) t2, .int (n / 64 ^ 0 % 64) t3]) :: news) → (∀ p ∈ news, p.1 ≠ D) → Q (.ref D) { s with heap := h', toks := tk' }) :
    wpAny (model prog w) (ktrTop dp un gd cn cs L a ccd cl outer) (call (.ref 84) [.int n tn, .int 64 tb, .int 4 tc]) Q E s :=
  useL (figures_64_4 n tn tb tc hn) B F X N T hk hd hu trivial fun D ys h' tk' st hI F' N' o1 => by
    rw [figs4] at hI
    obtain ⟨t0, t1, t2, t3, rfl⟩ := ints4 hI
    exact h D t0 t1 t2 t3 h' tk' st F' N' o1
theorem use_figs8 (hn : 0 ≤ n) (B : Below A₀ base outer h₀) (F : Fr h₀ L s.heap m) (X : Frag.In (hd.heap_39 w.params) h₀) (N : News h₀ L s.heap news) (T : Top p loose mean mg mb h₀) (hk : cs.kind = .function)
    (hd : dp + 20 < recursionLimit) (hu : un + 100 < cLine) (h : ∀ D t0 t1 t2 t3 t4 t5 t6 t7 h' tk', s.heap.StaysIn h' → Fr h₀ L h' m → News h₀ L h' ((D, LCg.lst [.int (n / 64 ^ 7 % 64) t0, .int (n / 64 ^ 6 % 64) t1, .int (n / 64 ^ 5 % 64) t2, .int (n / 64 ^ 4 % 64) t3, .int (n / 64 ^ 3 % 64) t4, .int (n / 64 ^ 2 % 64) t5, .int (n / 64 ^ 1 % 64) t6, .int (n / 64 ^ 0 % 64) t7]) :: news) → (∀ p ∈ news, p.1 ≠ D) → Q (.ref D) { s with heap := h', toks := tk' }) :
    wpAny (model prog w) (ktrTop dp un gd cn cs L a ccd cl outer) (call (.ref 84) [.int n tn, .int 64 tb, .int 8 tc]) Q E s :=
  useL (figures_64_8 n tn tb tc hn) B F X N T hk hd hu trivial fun D ys h' tk' st hI F' N' o1 => by
    rw [figs8] at hI
    obtain ⟨t0, t1, t2, t3, t4, t5, t6, t7, rfl⟩ := ints8 hI
    exact h D t0 t1 t2 t3 t4 t5 t6 t7 h' tk' st F' N' o1
end
theorem fig_in4 {n k : Int} (h : k ∈ [n / 64 ^ 3 % 64, n / 64 ^ 2 % 64, n / 64 ^ 1 % 64, n / 64 ^ 0 % 64]) : 0 ≤ k ∧ k < 64 := figs_in n 64 (by decide) 4 k (by rw [figs4]; exact h)
theorem fig_in8 {n k : Int} (h : k ∈ [n / 64 ^ 7 % 64, n / 64 ^ 6 % 64, n / 64 ^ 5 % 64, n / 64 ^ 4 % 64, n / 64 ^ 3 % 64, n / 64 ^ 2 % 64, n / 64 ^ 1 % 64, n / 64 ^ 0 % 64]) : 0 ≤ k ∧ k < 64 := figs_in n 64 (by decide) 8 k (by rw [figs8]; exact h)
/-- a frame's three names, the rest as it is -/
theorem fr_three {g h : Heap} {L : Addr} {m : Str → Option Value} {x1 x2 x3 : Str} {v1 v2 v3 : Option Value} (F : Fr g L h m) (h1 : m x1 = v1) (h2 : m x2 = v2) (h3 : m x3 = v3) :
    Fr g L h (fun z => if z = x1 then v1 else if z = x2 then v2 else if z = x3 then v3 else m z) := by
  have e : (fun z => if z = x1 then v1 else if z = x2 then v2 else if z = x3 then v3 else m z) = m := by
    funext z
    by_cases q1 : z = x1
    · rw [if_pos q1, q1, h1]
    · rw [if_neg q1]
      by_cases q2 : z = x2
      · rw [if_pos q2, q2, h2]
      · rw [if_neg q2]
        by_cases q3 : z = x3
        · rw [if_pos q3, q3, h3]
        · rw [if_neg q3]
  rw [e]
  exact F
theorem due4 (rs : List Int) (v : Int) : List.foldl (fun a k => a * 64 + ((rs.idxOf k : Nat) : Int)) 0 [v / 64 ^ 3 % 64, v / 64 ^ 2 % 64, v / 64 ^ 1 % 64, v / 64 ^ 0 % 64] = dueOf rs 4 v := by
  unfold dueOf val
  rw [figs4]
  rfl
theorem due8 (rs : List Int) (v : Int) : List.foldl (fun a k => a * 64 + ((rs.idxOf k : Nat) : Int)) 0 [v / 64 ^ 7 % 64, v / 64 ^ 6 % 64, v / 64 ^ 5 % 64, v / 64 ^ 4 % 64, v / 64 ^ 3 % 64, v / 64 ^ 2 % 64, v / 64 ^ 1 % 64, v / 64 ^ 0 % 64] = dueOf rs 8 v := by
  unfold dueOf val
  rw [figs8]
  rfl
theorem pos_bytes {bs : Array UInt8} {ns : List Int} (h : KBw.bInts bs = ns) : ∀ k ∈ ns, 0 ≤ k ∧ k < 256 := fun k hk => KBw.ints_in (b := bs) (by rw [h]; exact hk)
end Mine

/-! MLawC -/
open PySem PySem.W PyProof.Rows PySem.Spec PySem.Calls
set_option maxRecDepth 100000
set_option maxHeartbeats 4000000
set_option linter.unusedVariables false
namespace Mine
/-- these objects lie in the heap -/
noncomputable def Lie (objs : List (Addr × Obj)) (h : Heap) : Prop := ∀ q ∈ objs, h.get? q.1 = some q.2
theorem Lie.keeps {objs : List (Addr × Obj)} {h h' : Heap} (hp : Lie objs h) (st : h.StaysIn h') : Lie objs h' := fun q hq => st _ _ (hp q hq)
theorem Lie.of_news {g h : Heap} {L : Addr} {n objs : List (Addr × Obj)} (N : News g L h n) (hs : ∀ q ∈ objs, q ∈ n) : Lie objs h := fun q hq => (N q (hs q hq)).1
theorem Lie.of_sl {g h : Heap} {L : Addr} {n objs : List (Addr × Obj)} (N : News g L h n) (hs : objs.Sublist n) : Lie objs h := fun q hq => (N q (hs.mem hq)).1
/-- the newest object of a ledger by a name of its own -/
theorem pack {g h : Heap} {L f : Addr} {fo : Obj} {news : List (Addr × Obj)} {G : Prop} (N : News g L h ((f, fo) :: news)) (k : ∀ fo', fo' = fo → News g L h ((f, fo') :: news) → G) : G := k fo rfl N
section
variable {M : Model} {A : Around} {E : Value → Shared → Prop} {s : Shared} {h₀ : Heap} {L C c : Addr} {m : Str → Option Value} {scope : Scope} {cl : List (Str × Addr)} {env : Env} {x : Str} {pos : Pos} {v : Value} {o : Obj} {Q : Value → Shared → Prop}
/-- a name that a comprehension's block closes over, its cell in the ground -/
theorem lcf_FG (F : Fr h₀ L s.heap m) (hc : cl.lookup x = some c) (hm : h₀.get? c = some o) (hd : o.data = .cell (some v)) (h : Q v s)
    (hk : (compEnvC scope cl C env).scope.kind = .function) (hx : (compEnvC scope cl C env).kindOf x = some .free) (hb : (x == ("__debug__" : Str)) = false := by decide) (hn : (x == ("__classdict__" : Str)) = false := by decide) :
    wpAny M A (eval (.Name x pos) (compEnvC scope cl C env)) Q E s := wpAny_Name (wpAny_loadName_free hk hx hc ⟨o, F.keep _ _ hm, hd⟩ h hn) hb
end
section
variable {prog : Program} {w : World} {A : Around} {E : Value → Shared → Prop} {s : Shared} {value slice : PySem.Expr} {h₀ : Heap} {L D : Addr} {m : Str → Option Value} {ys : List Value} {S rs : List Int} {x y i : Int} {u : Tok} {Q : Value → Shared → Prop}
/-- rising[rank] -/
theorem item_rising (hR : Rises x y S rs) (F : Fr h₀ L s.heap m) (hD : h₀.get? D = some (LCg.lst ys)) (hI : IntsAre ys rs) (hi : 0 ≤ i ∧ i < 64) (h : ∀ t, Q (.int (rs.getD i.toNat 0) t) s)
    (hs : subscripted slice false (.ref D) (.int i u) = operate [.ref D, .int i u] (getItem (.ref D) (.int i u)) := by with_unfolding_all rfl) :
    wpAny (model prog w) A (subscriptTail value slice (.ref D) (.int i u)) Q E s :=
  item_ints (F.keep _ _ hD) hI hi.1 (by rw [hR.len']; exact hi.2) (by rw [hR.len']; decide) h hs
end
theorem pair_size (x y : Int) : (byteArr [x, y]).size = 2 := byteArr_size _
theorem octs3_ints (v : Int) : KBw.bInts (octs v 3) = [v / 256 ^ 2 % 256, v / 256 ^ 1 % 256, v / 256 ^ 0 % 256] := by
  unfold octs
  rw [KBa.ints_make (fun n hn => by
    obtain ⟨k, _, rfl⟩ := List.mem_map.mp (List.mem_reverse.mp hn)
    exact ⟨Int.emod_nonneg _ (by decide), Int.emod_lt_of_pos _ (by decide)⟩)]
  rfl
theorem octs6_ints (v : Int) : KBw.bInts (octs v 6) = [v / 256 ^ 5 % 256, v / 256 ^ 4 % 256, v / 256 ^ 3 % 256, v / 256 ^ 2 % 256, v / 256 ^ 1 % 256, v / 256 ^ 0 % 256] := by
  unfold octs
  rw [KBa.ints_make (fun n hn => by
    obtain ⟨k, _, rfl⟩ := List.mem_map.mp (List.mem_reverse.mp hn)
    exact ⟨Int.emod_nonneg _ (by decide), Int.emod_lt_of_pos _ (by decide)⟩)]
  rfl
theorem num3 {v : Int} (h0 : 0 ≤ v) (h1 : v < 64 ^ 4) : (v / 256 ^ 2 % 256 * 256 + v / 256 ^ 1 % 256) * 256 + v / 256 ^ 0 % 256 = v := by omega
theorem num6 {v : Int} (h0 : 0 ≤ v) (h1 : v < 64 ^ 8) : ((((v / 256 ^ 5 % 256 * 256 + v / 256 ^ 4 % 256) * 256 + v / 256 ^ 3 % 256) * 256 + v / 256 ^ 2 % 256) * 256 + v / 256 ^ 1 % 256) * 256 + v / 256 ^ 0 % 256 = v := by omega
section
variable {prog : Program} {w : World} {p : Program} {loose : List Str} {mean : ExcName → Option Value} {mg mb : Str → Option Value}
  {dp un : Nat} {gd : Option (List Code)} {cn : Str} {cs : Scope} {a : Addr} {ccd : Value} {cl : List (Str × Addr)} {outer : List Env} {A₀ : Around} {base h₀ : Heap} {L D : Addr} {m : Str → Option Value} {s : Shared} {Q E : Value → Shared → Prop} {news : List (Addr × Obj)} {v : Int} {ts ta : Tok} {al : Array UInt8} {ys : List Value} {as : List Int} {r : Int → Int} {b0 b1 b2 b3 b4 b5 b6 b7 : Int}
/-- b64encode of the octets of a number -/
theorem use_b64o3 (hv : 0 ≤ v ∧ v < 64 ^ 4) (hal : al.size = 2) (B : Below A₀ base outer h₀) (F : Fr h₀ L s.heap m) (X : Frag.In (hd.heap_39 w.params) h₀) (N : News h₀ L s.heap news) (T : Top p loose mean mg mb h₀) (hk : cs.kind = .function)
    (hd : dp + 20 < recursionLimit) (hu : un + 100 < cLine) (h : ∀ t h' tk', s.heap.StaysIn h' → Fr h₀ L h' m → News h₀ L h' news → Q (.bytes (enc al v 4) t) { s with heap := h', toks := tk' }) :
    wpAny (model prog w) (ktrTop dp un gd cn cs L a ccd cl outer) (call (.ref 67) [.bytes (octs v 3) ts, .bytes al ta]) Q E s :=
  useV (b64_3 (octs v 3) _ _ _ al ts ta (octs3_ints v) hal) B F X N T hk hd hu trivial fun t h' tk' st F' N' => by
    have := h t h' tk' st F' N'
    rw [num3 hv.1 hv.2]
    exact this
theorem use_b64o6 (hv : 0 ≤ v ∧ v < 64 ^ 8) (hal : al.size = 2) (B : Below A₀ base outer h₀) (F : Fr h₀ L s.heap m) (X : Frag.In (hd.heap_39 w.params) h₀) (N : News h₀ L s.heap news) (T : Top p loose mean mg mb h₀) (hk : cs.kind = .function)
    (hd : dp + 20 < recursionLimit) (hu : un + 100 < cLine) (h : ∀ t h' tk', s.heap.StaysIn h' → Fr h₀ L h' m → News h₀ L h' news → Q (.bytes (enc al v 8) t) { s with heap := h', toks := tk' }) :
    wpAny (model prog w) (ktrTop dp un gd cn cs L a ccd cl outer) (call (.ref 67) [.bytes (octs v 6) ts, .bytes al ta]) Q E s :=
  useV (b64_6 (octs v 6) _ _ _ _ _ _ al ts ta (octs6_ints v) hal) B F X N T hk hd hu trivial fun t h' tk' st F' N' => by
    have := h t h' tk' st F' N'
    rw [num6 hv.1 hv.2]
    exact this
/-- _law_octets of a made list -/
theorem use_oct4 (hI : IntsAre ys (List.map r [b0, b1, b2, b3])) (hm : (D, LCg.lst ys) ∈ news) (B : Below A₀ base outer h₀) (F : Fr h₀ L s.heap m) (X : Frag.In (hd.heap_39 w.params) h₀) (N : News h₀ L s.heap news) (T : Top p loose mean mg mb h₀) (hk : cs.kind = .function)
    (hd : dp + 20 < recursionLimit) (hu : un + 100 < cLine) (h : ∀ t h' tk', s.heap.StaysIn h' → Fr h₀ L h' m → News h₀ L h' news → Q (.bytes (octs (val (List.map r [b0, b1, b2, b3])) 3) t) { s with heap := h', toks := tk' }) :
    wpAny (model prog w) (ktrTop dp un gd cn cs L a ccd cl outer) (call (.ref 79) [.ref D]) Q E s := by
  obtain ⟨t0, t1, t2, t3, rfl⟩ := ints4 hI
  exact octets_4 D _ _ _ _ t0 t1 t2 t3 _ _ _ _ _ _ _ _ _ _ _ _ _ _ _ _ _ B F X T hk hd hu (fun q hq => by rw [List.mem_singleton.mp hq]; exact N _ hm) fun v h' tk' st po => by
    obtain ⟨t, rfl⟩ := po
    exact h t h' tk' st (F.keptAll st) (N.grown st)
theorem use_oct8 (hI : IntsAre ys (List.map r [b0, b1, b2, b3, b4, b5, b6, b7])) (hm : (D, LCg.lst ys) ∈ news) (B : Below A₀ base outer h₀) (F : Fr h₀ L s.heap m) (X : Frag.In (hd.heap_39 w.params) h₀) (N : News h₀ L s.heap news) (T : Top p loose mean mg mb h₀) (hk : cs.kind = .function)
    (hd : dp + 20 < recursionLimit) (hu : un + 100 < cLine) (h : ∀ t h' tk', s.heap.StaysIn h' → Fr h₀ L h' m → News h₀ L h' news → Q (.bytes (octs (val (List.map r [b0, b1, b2, b3, b4, b5, b6, b7])) 6) t) { s with heap := h', toks := tk' }) :
    wpAny (model prog w) (ktrTop dp un gd cn cs L a ccd cl outer) (call (.ref 79) [.ref D]) Q E s := by
  obtain ⟨t0, t1, t2, t3, t4, t5, t6, t7, rfl⟩ := ints8 hI
  exact octets_8 D _ _ _ _ _ _ _ _ t0 t1 t2 t3 t4 t5 t6 t7 _ _ _ _ _ _ _ _ _ _ _ _ _ _ _ _ _ B F X T hk hd hu (fun q hq => by rw [List.mem_singleton.mp hq]; exact N _ hm) fun v h' tk' st po => by
    obtain ⟨t, rfl⟩ := po
    exact h t h' tk' st (F.keptAll st) (N.grown st)
end
section
variable {x y : Int} {S rs : List Int}
theorem lam_bound (hR : Rises x y S rs) (hok : OkPair x y) (k : Int) (c : Nat) : 0 ≤ val ((figs k 64 c).map fun d => rs.getD d.toNat 0) ∧ val ((figs k 64 c).map fun d => rs.getD d.toNat 0) < 64 ^ c := by
  refine (val_figs c _ (by rw [List.length_map, figs_len]) fun d hd => ?_).2
  obtain ⟨j, hj, rfl⟩ := List.mem_map.mp hd
  have hb := figs_in k 64 (by decide) c j hj
  have q := hR.at hok (d := j.toNat) (by omega)
  exact ⟨q.1, q.2.1⟩
theorem lam_bound4 (hR : Rises x y S rs) (hok : OkPair x y) (k : Int) : 0 ≤ val (List.map (fun d => rs.getD d.toNat 0) [k / 64 ^ 3 % 64, k / 64 ^ 2 % 64, k / 64 ^ 1 % 64, k / 64 ^ 0 % 64]) ∧ val (List.map (fun d => rs.getD d.toNat 0) [k / 64 ^ 3 % 64, k / 64 ^ 2 % 64, k / 64 ^ 1 % 64, k / 64 ^ 0 % 64]) < 64 ^ 4 := by
  have := lam_bound hR hok k 4
  rw [figs4] at this
  exact this
theorem lam_bound8 (hR : Rises x y S rs) (hok : OkPair x y) (k : Int) : 0 ≤ val (List.map (fun d => rs.getD d.toNat 0) [k / 64 ^ 7 % 64, k / 64 ^ 6 % 64, k / 64 ^ 5 % 64, k / 64 ^ 4 % 64, k / 64 ^ 3 % 64, k / 64 ^ 2 % 64, k / 64 ^ 1 % 64, k / 64 ^ 0 % 64]) ∧ val (List.map (fun d => rs.getD d.toNat 0) [k / 64 ^ 7 % 64, k / 64 ^ 6 % 64, k / 64 ^ 5 % 64, k / 64 ^ 4 % 64, k / 64 ^ 3 % 64, k / 64 ^ 2 % 64, k / 64 ^ 1 % 64, k / 64 ^ 0 % 64]) < 64 ^ 8 := by
  have := lam_bound hR hok k 8
  rw [figs8] at this
  exact this
theorem W64_4 (k : Int) : enc (byteArr [x, y]) (val (List.map (fun d => rs.getD d.toNat 0) [k / 64 ^ 3 % 64, k / 64 ^ 2 % 64, k / 64 ^ 1 % 64, k / 64 ^ 0 % 64])) 4 = W64 x y rs 4 k := by
  unfold W64
  rw [figs4]
  rfl
theorem W64_8 (k : Int) : enc (byteArr [x, y]) (val (List.map (fun d => rs.getD d.toNat 0) [k / 64 ^ 7 % 64, k / 64 ^ 6 % 64, k / 64 ^ 5 % 64, k / 64 ^ 4 % 64, k / 64 ^ 3 % 64, k / 64 ^ 2 % 64, k / 64 ^ 1 % 64, k / 64 ^ 0 % 64])) 8 = W64 x y rs 8 k := by
  unfold W64
  rw [figs8]
  rfl
end
end Mine

/-! MLawD -/
open PySem PySem.W PyProof.Rows PySem.Spec PySem.Calls
set_option maxRecDepth 100000
set_option maxHeartbeats 4000000
set_option linter.unusedVariables false
namespace Mine
theorem byteArr_bInts (b : Array UInt8) : byteArr (KBw.bInts b) = b := by
  obtain ⟨l⟩ := b
  show ((l.map fun c => ((c.toNat : Nat) : Int)).map fun n => n.toNat.toUInt8).toArray = l.toArray
  rw [List.map_map]
  congr 1
  refine (List.map_congr_left fun c _ => ?_).trans (List.map_id l)
  show ((c.toNat : Nat) : Int).toNat.toUInt8 = c
  simp
theorem figs256_3 (v : Int) : figs v 256 3 = [v / 256 ^ 2 % 256, v / 256 ^ 1 % 256, v / 256 ^ 0 % 256] := rfl
theorem figs256_6 (v : Int) : figs v 256 6 = [v / 256 ^ 5 % 256, v / 256 ^ 4 % 256, v / 256 ^ 3 % 256, v / 256 ^ 2 % 256, v / 256 ^ 1 % 256, v / 256 ^ 0 % 256] := rfl
/-- the row is the figures of its own number -/
theorem row3 {bs : Array UInt8} {i0 i1 i2 v : Int} (hbs : KBw.bInts bs = [i0, i1, i2]) (hv : v = (i0 * 256 + i1) * 256 + i2) : bs = byteArr (figs v 256 3) := by
  have hin := pos_bytes hbs
  simp only [List.forall_mem_cons] at hin
  obtain ⟨h0, h1, h2, _⟩ := hin
  have c2 : v / 1 = (i0 * 256 + i1) * 256 + i2 := by rw [hv]; exact Int.ediv_one _
  have c1 := cut_step c2 (by decide) h2
  have c0 := cut_step c1 (by decide) h1
  have e : figs v 256 3 = [i0, i1, i2] := by
    rw [figs256_3]
    have e0 : v / 256 ^ 2 % 256 = i0 := (congrArg (· % 256) c0).trans (Int.emod_eq_of_lt h0.1 h0.2)
    have e1 : v / 256 ^ 1 % 256 = i1 := (congrArg (· % 256) c1).trans (left_mod h1)
    have e2 : v / 256 ^ 0 % 256 = i2 := (congrArg (· % 256) c2).trans (left_mod h2)
    rw [e0, e1, e2]
  rw [e, ← hbs, byteArr_bInts]
theorem row6 {bs : Array UInt8} {i0 i1 i2 i3 i4 i5 v : Int} (hbs : KBw.bInts bs = [i0, i1, i2, i3, i4, i5]) (hv : v = ((((i0 * 256 + i1) * 256 + i2) * 256 + i3) * 256 + i4) * 256 + i5) : bs = byteArr (figs v 256 6) := by
  have hin := pos_bytes hbs
  simp only [List.forall_mem_cons] at hin
  obtain ⟨h0, h1, h2, h3, h4, h5, _⟩ := hin
  have c5 : v / 1 = ((((i0 * 256 + i1) * 256 + i2) * 256 + i3) * 256 + i4) * 256 + i5 := by rw [hv]; exact Int.ediv_one _
  have c4 := cut_step c5 (by decide) h5
  have c3 := cut_step c4 (by decide) h4
  have c2 := cut_step c3 (by decide) h3
  have c1 := cut_step c2 (by decide) h2
  have c0 := cut_step c1 (by decide) h1
  have e : figs v 256 6 = [i0, i1, i2, i3, i4, i5] := by
    rw [figs256_6]
    have e0 : v / 256 ^ 5 % 256 = i0 := (congrArg (· % 256) c0).trans (Int.emod_eq_of_lt h0.1 h0.2)
    have e1 : v / 256 ^ 4 % 256 = i1 := (congrArg (· % 256) c1).trans (left_mod h1)
    have e2 : v / 256 ^ 3 % 256 = i2 := (congrArg (· % 256) c2).trans (left_mod h2)
    have e3 : v / 256 ^ 2 % 256 = i3 := (congrArg (· % 256) c3).trans (left_mod h3)
    have e4 : v / 256 ^ 1 % 256 = i4 := (congrArg (· % 256) c4).trans (left_mod h4)
    have e5 : v / 256 ^ 0 % 256 = i5 := (congrArg (· % 256) c5).trans (left_mod h5)
    rw [e0, e1, e2, e3, e4, e5]
  rw [e, ← hbs, byteArr_bInts]
theorem hexed_ne {b : Array UInt8} (h : 0 < b.size) : hexed b ≠ #[] := fun e => by
  have := hexed_size b
  rw [e] at this
  have z : (#[] : Array Nat).size = 0 := rfl
  omega
theorem in_figs256 (k : Int) (c : Nat) : KBa.In (figs k 256 c) := figs_in k 256 (by decide) c
section
variable {prog : Program} {w : World} {p : Program} {loose : List Str} {mean : ExcName → Option Value} {mg mb : Str → Option Value}
  {dp un : Nat} {gd : Option (List Code)} {cn : Str} {cs : Scope} {a : Addr} {ccd : Value} {cl : List (Str × Addr)} {outer : List Env} {A₀ : Around} {base h₀ : Heap} {L D : Addr} {m : Str → Option Value} {s : Shared} {Q E : Value → Shared → Prop} {news : List (Addr × Obj)} {v n N : Int} {ts ta tl th tn tb tc : Tok} {al bs : Array UInt8} {i0 i1 i2 i3 i4 i5 : Int}
  {f : Addr} {W : Int → Array UInt8} {hid : Array UInt8} {r : Int} {Pre : Heap → Prop}
/-- b64encode of the row -/
theorem use_b64r3 (hbs : KBw.bInts bs = [i0, i1, i2]) (hv : v = (i0 * 256 + i1) * 256 + i2) (hal : al.size = 2) (B : Below A₀ base outer h₀) (F : Fr h₀ L s.heap m) (X : Frag.In (hd.heap_39 w.params) h₀) (N : News h₀ L s.heap news) (T : Top p loose mean mg mb h₀) (hk : cs.kind = .function)
    (hd : dp + 20 < recursionLimit) (hu : un + 100 < cLine) (h : ∀ t h' tk', s.heap.StaysIn h' → Fr h₀ L h' m → News h₀ L h' news → Q (.bytes (enc al v 4) t) { s with heap := h', toks := tk' }) :
    wpAny (model prog w) (ktrTop dp un gd cn cs L a ccd cl outer) (call (.ref 67) [.bytes bs ts, .bytes al ta]) Q E s := by
  subst hv
  exact useV (b64_3 bs _ _ _ al ts ta hbs hal) B F X N T hk hd hu trivial h
theorem use_b64r6 (hbs : KBw.bInts bs = [i0, i1, i2, i3, i4, i5]) (hv : v = ((((i0 * 256 + i1) * 256 + i2) * 256 + i3) * 256 + i4) * 256 + i5) (hal : al.size = 2) (B : Below A₀ base outer h₀) (F : Fr h₀ L s.heap m) (X : Frag.In (hd.heap_39 w.params) h₀) (N : News h₀ L s.heap news) (T : Top p loose mean mg mb h₀) (hk : cs.kind = .function)
    (hd : dp + 20 < recursionLimit) (hu : un + 100 < cLine) (h : ∀ t h' tk', s.heap.StaysIn h' → Fr h₀ L h' m → News h₀ L h' news → Q (.bytes (enc al v 8) t) { s with heap := h', toks := tk' }) :
    wpAny (model prog w) (ktrTop dp un gd cn cs L a ccd cl outer) (call (.ref 67) [.bytes bs ts, .bytes al ta]) Q E s := by
  subst hv
  exact useV (b64_6 bs _ _ _ _ _ _ al ts ta hbs hal) B F X N T hk hd hu trivial h
/-- b16encode -/
theorem use_b16 (hb : 0 < bs.size ∧ bs.size ≤ 100) (B : Below A₀ base outer h₀) (F : Fr h₀ L s.heap m) (X : Frag.In (hd.heap_39 w.params) h₀) (N : News h₀ L s.heap news) (T : Top p loose mean mg mb h₀) (hk : cs.kind = .function)
    (hd : dp + 20 < recursionLimit) (hu : un + 100 < cLine) (h : ∀ t h' tk', s.heap.StaysIn h' → Fr h₀ L h' m → News h₀ L h' news → Q (.bytes (hexU bs) t) { s with heap := h', toks := tk' }) :
    wpAny (model prog w) (ktrTop dp un gd cn cs L a ccd cl outer) (call (.ref 74) [.bytes bs ts]) Q E s :=
  useV (b16_c bs ts hb.2 (hexed_ne hb.1)) B F X N T hk hd hu trivial h
/-- _law_figures to the base 256 -/
theorem use_figs256 {c : Int} {cc : Nat} (hc : (c = 3 ∧ cc = 3) ∨ (c = 6 ∧ cc = 6)) (hn : 0 ≤ n) (B : Below A₀ base outer h₀) (F : Fr h₀ L s.heap m) (X : Frag.In (hd.heap_39 w.params) h₀) (N : News h₀ L s.heap news) (T : Top p loose mean mg mb h₀) (hk : cs.kind = .function)
    (hd : dp + 20 < recursionLimit) (hu : un + 100 < cLine) (h : ∀ D ys h' tk', s.heap.StaysIn h' → IntsAre ys (figs n 256 cc) → Fr h₀ L h' m → News h₀ L h' ((D, LCg.lst ys) :: news) → (∀ p ∈ news, p.1 ≠ D) → Q (.ref D) { s with heap := h', toks := tk' }) :
    wpAny (model prog w) (ktrTop dp un gd cn cs L a ccd cl outer) (call (.ref 84) [.int n tn, .int 256 tb, .int c tc]) Q E s := by
  rcases hc with ⟨rfl, rfl⟩ | ⟨rfl, rfl⟩
  · exact useL (figures_256_3 n tn tb tc hn) B F X N T hk hd hu trivial h
  · exact useL (figures_256_6 n tn tb tc hn) B F X N T hk hd hu trivial h
/-- _law_halved -/
theorem use_halved (hN : n = N) (Rk : Ranked N W hid r) (Lm : Lam prog w (hd.heap_39 w.params) p loose mean mg mb f N W Pre) (hp : Pre s.heap) (B : Below A₀ base outer h₀) (F : Fr h₀ L s.heap m) (X : Frag.In (hd.heap_39 w.params) h₀) (N' : News h₀ L s.heap news) (T : Top p loose mean mg mb h₀) (hk : cs.kind = .function)
    (hd : dp + 60 < recursionLimit) (hu : un + 300 < cLine) (h : ∀ t h' tk', s.heap.StaysIn h' → Fr h₀ L h' m → News h₀ L h' news → Q (.int r t) { s with heap := h', toks := tk' }) :
    wpAny (model prog w) (ktrTop dp un gd cn cs L a ccd cl outer) (call (.ref 103) [.int n tl, .ref f, .bytes hid th]) Q E s := by
  subst hN
  exact useV (halved_c f _ W hid r Pre tl th Rk Lm) B F X N' T hk hd hu hp h
end
theorem rank64_4 {x y : Int} {S rs : List Int} (hR : Rises x y S rs) (hok : OkPair x y) (v : Int) : Ranked (64 ^ 4) (W64 x y rs 4) (enc (byteArr [x, y]) v 4) (dueOf rs 4 v) := ranked64 hR hok (by decide) v
theorem rank64_8 {x y : Int} {S rs : List Int} (hR : Rises x y S rs) (hok : OkPair x y) (v : Int) : Ranked (64 ^ 8) (W64 x y rs 8) (enc (byteArr [x, y]) v 8) (dueOf rs 8 v) := ranked64 hR hok (by decide) v
theorem rank16_3 {bs : Array UInt8} {i0 i1 i2 v : Int} (hbs : KBw.bInts bs = [i0, i1, i2]) (hv : v = (i0 * 256 + i1) * 256 + i2) (h0 : 0 ≤ v) (h1 : v < 256 ^ 3) : Ranked (256 ^ 3) (fun k => hexU (byteArr (figs k 256 3))) (hexU bs) v :=
  ranked16 (by decide) h0 h1 (congrArg hexU (row3 hbs hv))
theorem rank16_6 {bs : Array UInt8} {i0 i1 i2 i3 i4 i5 v : Int} (hbs : KBw.bInts bs = [i0, i1, i2, i3, i4, i5]) (hv : v = ((((i0 * 256 + i1) * 256 + i2) * 256 + i3) * 256 + i4) * 256 + i5) (h0 : 0 ≤ v) (h1 : v < 256 ^ 6) : Ranked (256 ^ 6) (fun k => hexU (byteArr (figs k 256 6))) (hexU bs) v :=
  ranked16 (by decide) h0 h1 (congrArg hexU (row6 hbs hv))
theorem size3 {bs : Array UInt8} {i0 i1 i2 : Int} (hbs : KBw.bInts bs = [i0, i1, i2]) : 0 < bs.size ∧ bs.size ≤ 100 := by
  rw [← KBw.ints_length, hbs]; simp
theorem size6 {bs : Array UInt8} {i0 i1 i2 i3 i4 i5 : Int} (hbs : KBw.bInts bs = [i0, i1, i2, i3, i4, i5]) : 0 < bs.size ∧ bs.size ≤ 100 := by
  rw [← KBw.ints_length, hbs]; simp
theorem sizeF3 (k : Int) : 0 < (byteArr (figs k 256 3)).size ∧ (byteArr (figs k 256 3)).size ≤ 100 := by
  rw [byteArr_size, figs_len]; decide
theorem sizeF6 (k : Int) : 0 < (byteArr (figs k 256 6)).size ∧ (byteArr (figs k 256 6)).size ≤ 100 := by
  rw [byteArr_size, figs_len]; decide
/-- three objects dropped behind the two newest -/
theorem news_drop3 {g h : Heap} {L : Addr} {p1 p2 d1 d2 d3 : Addr × Obj} {rest : List (Addr × Obj)} (N : News g L h (p1 :: p2 :: d1 :: d2 :: d3 :: rest)) : News g L h (p1 :: p2 :: rest) := fun q hq => N q (by
  rcases List.mem_cons.mp hq with rfl | hq
  · exact .head _
  · rcases List.mem_cons.mp hq with rfl | hq
    · exact .tail _ (.head _)
    · exact .tail _ (.tail _ (.tail _ (.tail _ (.tail _ hq)))))
theorem lim3 : (256 : Int) ^ Int.toNat 3 = 64 ^ 4 := by decide +kernel
theorem lim6 : (256 : Int) ^ Int.toNat 6 = 64 ^ 8 := by decide +kernel
theorem lam3 : (256 : Int) ^ Int.toNat 3 = 256 ^ 3 := by decide +kernel
theorem lam6 : (256 : Int) ^ Int.toNat 6 = 256 ^ 6 := by decide +kernel
/-- law's last statement -/
theorem last_stage {M : Model} {A : Around} {st : Stmt} {env : Env} {g : Heap} {L : Addr} {s₁ s : Shared} {E : Value → Shared → Prop}
    (h1 : ∀ Q' : Flow → Shared → Prop, (∀ s' m' news' ps, At g L s₁ m' news' s' → (105, tabObj ps) ∈ news' → Q' (.ret (.bool true)) s') → wpAny M A (exec st env) Q' E s) : wpAny M A (execs [st] env) (LawEnd g L s₁) E s :=
  wpAny_execs_cons (h1 _ fun s' m' news' ps hA hm => ⟨m', news', ps, rfl, hA, hm⟩)
end Mine

/-! MLaw -/
open PySem PySem.W PyProof.Rows PySem.Spec PySem.Calls
set_option maxRecDepth 100000
set_option maxHeartbeats 8000000
set_option linter.unusedVariables false
namespace Mine
local macro_rules | `(tactic| walk_at $s:str) => `(tactic| k_extra $s)
local macro_rules | `(tactic| k_ne) => `(tactic| (refine neN ?_; (try dsimp only); first | assumption | exact Ne.symm (by assumption) | walk_at "my ne" | omega))
theorem words_law : True := by
  k_with_none
  k_with "subscriptTail" => (k_here; (with_reducible show wpAny _ _ (subscriptTail _ (PySem.Expr.Slice _ _ none _) (Value.ref _) (Value.ref _)) _ _ _); k_dflt (refine' slice_three ?z9F ?z9N ?z9l ?_ ?z9s; (case z9F => k_asm); (case z9N => k_asm); (case z9l => kmk_list); (case z9s => with_unfolding_all rfl)); intro D' ws' h' F' N' l1 hI'; (try k_lt l1))
  k_with "binaryOp FloorDiv int int" => (k_here; (with_reducible show wpAny _ _ (binaryOp Operator.FloorDiv (Value.int _ _) (Value.int (_ ^ Int.toNat _) _)) _ _ _); (with_reducible refine floordiv_pow ?z9fpa ?z9fpb ?z9fpc ?_); (case z9fpa => decide); (case z9fpb => decide); (case z9fpc => first | exact up_lim (by assumption) (by decide) | exact dn_lim (by assumption) (by decide) | l_bnd))
  k_with "call type:bytes" => (k_here; (with_reducible show wpAny _ _ (call (Value.type "bytes") [Value.ref _]) _ _ _); k_dflt (refine' KBa.make_K ?z9kbaF ?z9kbaN ?z9kbah ?z9kbal ?z9kbai ?z9kbar ?z9kban ?_; (case z9kbaF => k_asm); (case z9kbaN => k_asm); (case z9kbah => rfl); (case z9kbal => kba_isList); (case z9kbai => kba_listInts); (case z9kbar => first | exact in_figs256 _ _ | exact in_fmod _ _); (case z9kban => first | (rw [figs_len]; decide) | kba_size | (simp only [List.length_map, rangeKs_length]; decide))); intro _ _ _ F' N' kbaIn)
  k_with "call ref" => (k_here; k_dflt (first
      | (refine' useV (signs_c _ _) ?z9k1 ?z9k2 ?z9k3 ?z9k4 ?z9k5 ?z9kK ?z9kd ?z9ku ?z9kp ?_)
      | (refine' useV (number_3 _ _ _ _ _ (by assumption)) ?z9k1 ?z9k2 ?z9k3 ?z9k4 ?z9k5 ?z9kK ?z9kd ?z9ku ?z9kp ?_)
      | (refine' useV (number_6 _ _ _ _ _ _ _ _ (by assumption)) ?z9k1 ?z9k2 ?z9k3 ?z9k4 ?z9k5 ?z9kK ?z9kd ?z9ku ?z9kp ?_)); (case z9k1 => k_asm); (case z9k2 => k_asm); (case z9k3 => k_asm); (case z9k4 => k_asm); (case z9k5 => k_asm); (case z9kK => first | exact rfl | assumption); (case z9kd => first | decide | ktr_room); (case z9ku => first | decide | ktr_units); (case z9kp => exact trivial); intro t9 h9 tk9 st9 F' N'; (try dsimp only); (try k_fold); walk_say "MY USEV")
  k_with "call builtin:sorted" => (k_here; k_dflt (refine' sorted_face ?z9ok ?z9hf ?z9hh ?z9F ?z9N ?_; (case z9ok => assumption); (case z9hf => assumption); (case z9hh => rfl); (case z9F => k_asm); (case z9N => k_asm)); intro D' ws' S' e' h' tk' F' N' l1 hI' hp' hs'; (have hS' := perm64 hp'); (try k_lt l1))
  k_with "getMethod bytes" => (k_here; with_reducible refine method_index ?_)
  k_with "call builtin:bytes.index" => (k_here; (with_reducible refine call_index (by assumption) (List.Perm.mem_iff (by assumption) |>.mp (by assumption)) ?_); intro _ _)
  k_with "eval ListComp" => (k_here; (with_reducible show wpAny _ _ (eval (PySem.Expr.ListComp (PySem.Expr.Call _ _ _ _) _ _ _) _) _ _ _); k_dflt (refine LCg.ListComp_U (F₀ := by k_asm) (by with_unfolding_all rfl) (by decide) (by rfl) (by decide) (by rfl) ?_))
  k_with "call ref" => (k_here; (with_reducible show wpAny _ _ (call (Value.ref 84) [Value.int _ _, Value.int 64 _, Value.int 4 _]) _ _ _); (k_dflt (refine' use_figs4 ?z9kn ?z9k1 ?z9k2 ?z9k3 ?z9k4 ?z9k5 ?z9kK ?z9kd ?z9ku ?_)); (case z9kn => assumption); (case z9k1 => k_asm); (case z9k2 => k_asm); (case z9k3 => k_asm); (case z9k4 => k_asm); (case z9k5 => k_asm); (case z9kK => first | exact rfl | assumption); (case z9kd => first | decide | ktr_room); (case z9ku => first | decide | ktr_units); intro D' t0' t1' t2' t3' h9 tk9 st9 F' N' o1'; (try simp only [List.forall_mem_cons, List.not_mem_nil, false_implies, implies_true, and_true] at o1'); (try dsimp only); (try k_fold); walk_say "MY FIGS")
  k_with "call ref" => (k_here; (with_reducible show wpAny _ _ (call (Value.ref 84) [Value.int _ _, Value.int 64 _, Value.int 8 _]) _ _ _); (k_dflt (refine' use_figs8 ?z9kn ?z9k1 ?z9k2 ?z9k3 ?z9k4 ?z9k5 ?z9kK ?z9kd ?z9ku ?_)); (case z9kn => assumption); (case z9k1 => k_asm); (case z9k2 => k_asm); (case z9k3 => k_asm); (case z9k4 => k_asm); (case z9k5 => k_asm); (case z9kK => first | exact rfl | assumption); (case z9kd => first | decide | ktr_room); (case z9ku => first | decide | ktr_units); intro D' t0' t1' t2' t3' t4' t5' t6' t7' h9 tk9 st9 F' N' o1'; (try simp only [List.forall_mem_cons, List.not_mem_nil, false_implies, implies_true, and_true] at o1'); (try dsimp only); (try k_fold); walk_say "MY FIGS8")
  k_with "call builtin:list.index" => (k_here; k_dflt (refine' rising_index ?z9r ?z9o ?z9N ?z9m ?z9i ?z9k ?_; (case z9r => assumption); (case z9o => assumption); (case z9N => k_asm); (case z9m => k_mem); (case z9i => assumption); (case z9k => first | exact fig_in4 (by assumption) | exact fig_in8 (by assumption))))
  k_with "call ref" => (k_here; (with_reducible show wpAny _ _ (call (Value.ref 67) [Value.bytes (octs _ 3) _, Value.bytes _ _]) _ _ _); (k_dflt (refine' use_b64o3 ?z9hv ?z9hal ?z9k1 ?z9k2 ?z9k3 ?z9k4 ?z9k5 ?z9kK ?z9kd ?z9ku ?_)); (case z9hv => exact lam_bound4 (by assumption) (by assumption) _); (case z9hal => exact pair_size _ _); (case z9k1 => k_asm); (case z9k2 => k_asm); (case z9k3 => k_asm); (case z9k4 => k_asm); (case z9k5 => k_asm); (case z9kK => first | exact rfl | assumption); (case z9kd => first | decide | ktr_room); (case z9ku => first | decide | ktr_units); intro t9 h9 tk9 st9 F' N'; (try dsimp only); (try k_fold); walk_say "MY B64O3")
  k_with "call ref" => (k_here; (with_reducible show wpAny _ _ (call (Value.ref 79) [Value.ref _]) _ _ _); (k_dflt (refine' use_oct4 ?z9hI ?z9hm ?z9k1 ?z9k2 ?z9k3 ?z9k4 ?z9k5 ?z9kK ?z9kd ?z9ku ?_)); (case z9hI => assumption); (case z9k1 => k_asm); (case z9k2 => k_asm); (case z9k3 => k_asm); (case z9k4 => k_asm); (case z9hm => k_mem); (case z9k5 => k_asm); (case z9kK => first | exact rfl | assumption); (case z9kd => first | decide | ktr_room); (case z9ku => first | decide | ktr_units); intro t9 h9 tk9 st9 F' N'; (try dsimp only); (try k_fold); walk_say "MY OCT4")
  k_with "call ref" => (k_here; (with_reducible show wpAny _ _ (call (Value.ref 67) [Value.bytes (octs _ 6) _, Value.bytes _ _]) _ _ _); (k_dflt (refine' use_b64o6 ?z9hv ?z9hal ?z9k1 ?z9k2 ?z9k3 ?z9k4 ?z9k5 ?z9kK ?z9kd ?z9ku ?_)); (case z9hv => exact lam_bound8 (by assumption) (by assumption) _); (case z9hal => exact pair_size _ _); (case z9k1 => k_asm); (case z9k2 => k_asm); (case z9k3 => k_asm); (case z9k4 => k_asm); (case z9k5 => k_asm); (case z9kK => first | exact rfl | assumption); (case z9kd => first | decide | ktr_room); (case z9ku => first | decide | ktr_units); intro t9 h9 tk9 st9 F' N'; (try dsimp only); (try k_fold); walk_say "MY B64O6")
  k_with "call ref" => (k_here; (with_reducible show wpAny _ _ (call (Value.ref 79) [Value.ref _]) _ _ _); (k_dflt (refine' use_oct8 ?z9hI ?z9hm ?z9k1 ?z9k2 ?z9k3 ?z9k4 ?z9k5 ?z9kK ?z9kd ?z9ku ?_)); (case z9hI => assumption); (case z9k1 => k_asm); (case z9k2 => k_asm); (case z9k3 => k_asm); (case z9k4 => k_asm); (case z9hm => k_mem); (case z9k5 => k_asm); (case z9kK => first | exact rfl | assumption); (case z9kd => first | decide | ktr_room); (case z9ku => first | decide | ktr_units); intro t9 h9 tk9 st9 F' N'; (try dsimp only); (try k_fold); walk_say "MY OCT8")
  k_with "eval Name" => (k_here; first
      | ((with_reducible show wpAny _ _ (eval (Expr.Name _ _) (compEnvC _ _ _ _)) _ _ _); k_dflt (refine' lcf_FG ?z9F ?z9c ?z9m ?z9d ?_ ?z9a ?z9b; (case z9a => rfl); (case z9b => rfl); (case z9F => k_asm); (case z9c => rfl); (case z9m => assumption); (case z9d => assumption)))
      | (k_dflt (refine' nameX_FG ?z9F ?z9c ?z9m ?z9d ?_; (case z9F => k_asm); (case z9c => exact rfl); (case z9m => assumption); (case z9d => assumption))))
  k_with "subscriptTail" => (k_here; (with_reducible show wpAny _ _ (subscriptTail _ _ (Value.ref _) (Value.int _ _)) _ _ _); k_dflt (refine' item_rising ?z9r ?z9F ?z9D ?z9i ?z9b ?_; (case z9r => assumption); (case z9F => k_asm); (case z9D => assumption); (case z9i => assumption); (case z9b => first | exact fig_in4 (by assumption) | exact fig_in8 (by assumption))); intro _)
  k_with "eval ListComp" => (k_here; (with_reducible show wpAny _ _ (eval (PySem.Expr.ListComp (PySem.Expr.Subscript _ _ _) _ _ _) _) _ _ _); k_dflt (refine LCg.ListComp_U (F₀ := by k_asm) (by with_unfolding_all rfl) (by decide) (by rfl) (by decide) (by rfl) ?_))
  k_with "call ref" => (k_here; (with_reducible show wpAny _ _ (call (Value.ref 67) [Value.bytes _ _, Value.bytes _ _]) _ _ _); (k_dflt (refine' use_b64r3 ?z9hb ?z9hv ?z9hal ?z9k1 ?z9k2 ?z9k3 ?z9k4 ?z9k5 ?z9kK ?z9kd ?z9ku ?_)); (case z9hb => assumption); (case z9hv => assumption); (case z9hal => exact pair_size _ _); (case z9k1 => k_asm); (case z9k2 => k_asm); (case z9k3 => k_asm); (case z9k4 => k_asm); (case z9k5 => k_asm); (case z9kK => first | exact rfl | assumption); (case z9kd => first | decide | ktr_room); (case z9ku => first | decide | ktr_units); intro t9 h9 tk9 st9 F' N'; (try dsimp only); (try k_fold); walk_say "MY B64R3")
  k_with "call ref" => (k_here; (with_reducible show wpAny _ _ (call (Value.ref 67) [Value.bytes _ _, Value.bytes _ _]) _ _ _); (k_dflt (refine' use_b64r6 ?z9hb ?z9hv ?z9hal ?z9k1 ?z9k2 ?z9k3 ?z9k4 ?z9k5 ?z9kK ?z9kd ?z9ku ?_)); (case z9hb => assumption); (case z9hv => assumption); (case z9hal => exact pair_size _ _); (case z9k1 => k_asm); (case z9k2 => k_asm); (case z9k3 => k_asm); (case z9k4 => k_asm); (case z9k5 => k_asm); (case z9kK => first | exact rfl | assumption); (case z9kd => first | decide | ktr_room); (case z9ku => first | decide | ktr_units); intro t9 h9 tk9 st9 F' N'; (try dsimp only); (try k_fold); walk_say "MY B64R6")
  k_with "call ref" => (k_here; (with_reducible show wpAny _ _ (call (Value.ref 74) [Value.bytes _ _]) _ _ _); (k_dflt (refine' use_b16 ?z9hb ?z9k1 ?z9k2 ?z9k3 ?z9k4 ?z9k5 ?z9kK ?z9kd ?z9ku ?_)); (case z9hb => first | exact size3 (by assumption) | exact size6 (by assumption) | exact sizeF3 _ | exact sizeF6 _); (case z9k1 => k_asm); (case z9k2 => k_asm); (case z9k3 => k_asm); (case z9k4 => k_asm); (case z9k5 => k_asm); (case z9kK => first | exact rfl | assumption); (case z9kd => first | decide | ktr_room); (case z9ku => first | decide | ktr_units); intro t9 h9 tk9 st9 F' N'; (try dsimp only); (try k_fold); walk_say "MY B16")
  k_with "call ref" => (k_here; (with_reducible show wpAny _ _ (call (Value.ref 84) [Value.int _ _, Value.int 256 _, Value.int _ _]) _ _ _); (k_dflt (refine' use_figs256 ?z9hc ?z9hn ?z9k1 ?z9k2 ?z9k3 ?z9k4 ?z9k5 ?z9kK ?z9kd ?z9ku ?_)); (case z9hc => first | exact .inl ⟨rfl, rfl⟩ | exact .inr ⟨rfl, rfl⟩); (case z9hn => assumption); (case z9k1 => k_asm); (case z9k2 => k_asm); (case z9k3 => k_asm); (case z9k4 => k_asm); (case z9k5 => k_asm); (case z9kK => first | exact rfl | assumption); (case z9kd => first | decide | ktr_room); (case z9ku => first | decide | ktr_units); intro D' ys' h9 tk9 st9 hI9 F' N' o1'; (try simp only [List.forall_mem_cons, List.not_mem_nil, false_implies, implies_true, and_true] at o1'); (try dsimp only); (try k_fold); walk_say "MY FIGS256")
  k_with "call ref" => (k_here; (with_reducible show wpAny _ _ (call (Value.ref 103) [Value.int _ _, Value.ref _, Value.bytes (enc _ _ 4) _]) _ _ _); (k_dflt (refine' use_halved ?z9hN (rank64_4 (by assumption) (by assumption) _) ?z9lm ?z9hp ?z9k1 ?z9k2 ?z9k3 ?z9k4 ?z9k5 ?z9kK ?z9kd ?z9ku ?_)); (case z9lm => assumption); (case z9hN => first | exact lim3 | exact lim6 | exact lam3 | exact lam6); (case z9hp => ((rename (∀ h, News _ _ h _ → _) => hp9); exact hp9 _ (by k_asm))); (case z9k1 => k_asm); (case z9k2 => k_asm); (case z9k3 => k_asm); (case z9k4 => k_asm); (case z9k5 => k_asm); (case z9kK => first | exact rfl | assumption); (case z9kd => first | decide | ktr_room); (case z9ku => first | decide | ktr_units); intro t9 h9 tk9 st9 F' N'; (try dsimp only); (try k_fold); walk_say "MY HALVED 4")
  k_with "call ref" => (k_here; (with_reducible show wpAny _ _ (call (Value.ref 103) [Value.int _ _, Value.ref _, Value.bytes (enc _ _ 8) _]) _ _ _); (k_dflt (refine' use_halved ?z9hN (rank64_8 (by assumption) (by assumption) _) ?z9lm ?z9hp ?z9k1 ?z9k2 ?z9k3 ?z9k4 ?z9k5 ?z9kK ?z9kd ?z9ku ?_)); (case z9lm => assumption); (case z9hN => first | exact lim3 | exact lim6 | exact lam3 | exact lam6); (case z9hp => ((rename (∀ h, News _ _ h _ → _) => hp9); exact hp9 _ (by k_asm))); (case z9k1 => k_asm); (case z9k2 => k_asm); (case z9k3 => k_asm); (case z9k4 => k_asm); (case z9k5 => k_asm); (case z9kK => first | exact rfl | assumption); (case z9kd => first | decide | ktr_room); (case z9ku => first | decide | ktr_units); intro t9 h9 tk9 st9 F' N'; (try dsimp only); (try k_fold); walk_say "MY HALVED 8")
  k_with "call ref" => (k_here; (with_reducible show wpAny _ _ (call (Value.ref 103) [Value.int _ _, Value.ref _, Value.bytes (hexU _) _]) _ _ _); (k_dflt (refine' use_halved ?z9hN (rank16_3 (by assumption) (by assumption) (by assumption) (by assumption)) ?z9lm ?z9hp ?z9k1 ?z9k2 ?z9k3 ?z9k4 ?z9k5 ?z9kK ?z9kd ?z9ku ?_)); (case z9lm => assumption); (case z9hN => first | exact lim3 | exact lim6 | exact lam3 | exact lam6); (case z9hp => ((rename (∀ h, News _ _ h _ → _) => hp9); exact hp9 _ (by k_asm))); (case z9k1 => k_asm); (case z9k2 => k_asm); (case z9k3 => k_asm); (case z9k4 => k_asm); (case z9k5 => k_asm); (case z9kK => first | exact rfl | assumption); (case z9kd => first | decide | ktr_room); (case z9ku => first | decide | ktr_units); intro t9 h9 tk9 st9 F' N'; (try dsimp only); (try k_fold); walk_say "MY HALVED 3")
  k_with "call ref" => (k_here; (with_reducible show wpAny _ _ (call (Value.ref 103) [Value.int _ _, Value.ref _, Value.bytes (hexU _) _]) _ _ _); (k_dflt (refine' use_halved ?z9hN (rank16_6 (by assumption) (by assumption) (by assumption) (by assumption)) ?z9lm ?z9hp ?z9k1 ?z9k2 ?z9k3 ?z9k4 ?z9k5 ?z9kK ?z9kd ?z9ku ?_)); (case z9lm => assumption); (case z9hN => first | exact lim3 | exact lim6 | exact lam3 | exact lam6); (case z9hp => ((rename (∀ h, News _ _ h _ → _) => hp9); exact hp9 _ (by k_asm))); (case z9k1 => k_asm); (case z9k2 => k_asm); (case z9k3 => k_asm); (case z9k4 => k_asm); (case z9k5 => k_asm); (case z9kK => first | exact rfl | assumption); (case z9kd => first | decide | ktr_room); (case z9ku => first | decide | ktr_units); intro t9 h9 tk9 st9 F' N'; (try dsimp only); (try k_fold); walk_say "MY HALVED 6")
  k_with "my ne" => first | exact ne12 _ | exact (ne12 _).symm | exact ne13 _ | exact (ne13 _).symm | exact ne14 _ | exact (ne14 _).symm | exact ne15 _ | exact (ne15 _).symm | exact ne16 _ | exact (ne16 _).symm | exact ne23 _ | exact (ne23 _).symm | exact ne24 _ | exact (ne24 _).symm | exact ne25 _ | exact (ne25 _).symm | exact ne26 _ | exact (ne26 _).symm | exact ne34 _ | exact (ne34 _).symm | exact ne35 _ | exact (ne35 _).symm | exact ne36 _ | exact (ne36 _).symm | exact ne45 _ | exact (ne45 _).symm | exact ne46 _ | exact (ne46 _).symm | exact ne56 _ | exact (ne56 _).symm
  k_with "my sub" => repeat (first | exact List.Sublist.slnil | refine List.Sublist.cons₂ _ ?_ | refine List.Sublist.cons _ ?_)
  k_with "my mem" => repeat (first | exact List.mem_cons_self | refine List.mem_cons_of_mem _ ?_)
  k_with "binaryOp Pow int int" => (k_here; (with_reducible refine pow_int_small ?z9a ?z9b ?z9c ?_); (case z9a => first | assumption | exact dn_lo (by assumption) (by decide)); (case z9b => first | exact up_hi (by assumption) (by decide) | exact dn_hi (by assumption) (by decide)); (case z9c => decide))
  exact trivial
theorem lawGo : Challenge.rw_mr0018_01.Holds := by
  refine hd ?_
  k_go0
  refine law_cut (by assumption) rfl ?_ ?_
  · intro fl s' hq
    obtain ⟨m', news', ps, rfl, ⟨h', tk', rfl, F9, N9⟩, hm9⟩ := hq
    dsimp only
    k_steps
  · (rename CellsAre _ _ _ => X0)
    rename_i w s0 s1 mg mb G Y fa o pm doc ho hg X V T B TE TW hcd ns hs hlay0 hL hr hl2 wa wb a vs wc hL2 ra w1 r0 hI hr2 hcond ht hD h1 tk1 o1 o2 o3 o4 o5 o6 c1 c2 c3 c4 c5 c6 X' T' K' F' N' l0
    have d1 : o1.data = .cell none := c1
    have d2 : o2.data = .cell none := c2
    have d3 : o3.data = .cell none := c3
    have d4 : o4.data = .cell none := c4
    have d5 : o5.data = .cell none := c5
    have d6 : o6.data = .cell none := c6
    have F0 : Fr (ghostOf s1.heap [(107, 105)]) s1.heap.objs.size h1 (fun y => if y = (Str.ofString "script") then some (.ref a) else none) := F'
    have hlen : ns.length ≤ 63 := by omega
    have C0 : CodeHd (ghostOf s1.heap [(107, 105)]) 107 105 := codeHd
    have N0 : News (ghostOf s1.heap [(107, 105)]) s1.heap.objs.size h1 [(s1.heap.objs.size + 1 + 1 + 1 + 1 + 1 + 1, o1), (s1.heap.objs.size + 1 + 1 + 1 + 1 + 1, o2), (s1.heap.objs.size + 1 + 1 + 1 + 1, o3), (s1.heap.objs.size + 1 + 1 + 1, o4), (s1.heap.objs.size + 1 + 1, o5), (s1.heap.objs.size + 1, o6), (105, tabObj #[])] := N'
    have hIL := lifted
    clear c1 c2 c3 c4 c5 c6 F' codeHd N' lifted X0 hcond ht hD hr2 r0 ra w1 hL2 hl2 hr hL hlay0 hs hcd hT9 TE TW B T V X hT8 hg ho Y G
    generalize hg0 : ghostOf s1.heap [(107, 105)] = g at *
    generalize hL0 : s1.heap.objs.size = L at *
    clear hg0 hL0
    clear o pm doc wa wb wc
    obtain ⟨p9, loose9, mean9, T9⟩ : ∃ p l mn, Top p l mn mg mb g := ⟨_, _, _, T'⟩
    clear T' s0
    dsimp only
    refine stage (fun s' => ∃ D ys, IntsAre ys (drawnL ns) ∧ (L + 1 + 1 + 1 + 1 + 1 + 1 ≠ D ∧ L + 1 + 1 + 1 + 1 + 1 ≠ D ∧ L + 1 + 1 + 1 + 1 ≠ D ∧ L + 1 + 1 + 1 ≠ D ∧ L + 1 + 1 ≠ D ∧ L + 1 ≠ D ∧ 105 ≠ D) ∧   At g L s1 (fun z => if z = Str.ofString "drawn" then some (.ref D) else if z = Str.ofString "script" then some (.ref a) else none) [(D, LCg.lst ys), (L + 1 + 1 + 1 + 1 + 1 + 1, o1), (L + 1 + 1 + 1 + 1 + 1, o2), (L + 1 + 1 + 1 + 1, o3), (L + 1 + 1 + 1, o4), (L + 1 + 1, o5), (L + 1, o6), (105, tabObj #[])] s') ?_ ?_
    · intro Q9 hret
      k_steps
      rename_i hI8 hL8 D9 h9 tk9 F9 N9 o9
      refine hret _ ⟨D9, ys, hI8, o9.2, h9, tk9, rfl, F9, news_sl N9 (by walk_at "my sub")⟩
    · intro s' hs9
      obtain ⟨D, ys, hI1, ⟨hn1, hn2, hn3, hn4, hn5, hn6, hn7⟩, h2, tk2, rfl, F1, N1⟩ := hs9
      clear F0 N0 h1 tk1 hI hIL
      have hl1 : ys.length = (drawnL ns).length := hI1.length
      have hl2 : (drawnL ns).length ≤ 3 := drawn_len ns
      refine stage (fun s' => ∃ D' n0 n1 n2 t0 t1 t2 o6', (0 ≤ n0 ∧ n0 < 2 ^ 48) ∧ L + 1 + 1 + 1 + 1 + 1 + 1 < D' ∧ 105 < D' ∧ Obj.data o6' = Data.cell (some (.ref D')) ∧   At g L s1 (fun z => if z = Str.ofString "drawn" then some (.ref D) else if z = Str.ofString "script" then some (.ref a) else none) [(D', W.listOf (List.toArray [.int n0 t0, .int n1 t1, .int n2 t2]) 0), (L + 1 + 1 + 1 + 1 + 1 + 1, o1), (L + 1 + 1 + 1 + 1 + 1, o2), (L + 1 + 1 + 1 + 1, o3), (L + 1 + 1 + 1, o4), (L + 1 + 1, o5), (L + 1, o6'), (105, tabObj #[])] s') ?_ ?_
      · intro Q9 hret
        k_steps
        rename_i D9 ws9 h8 hI9 l9 h9 o9 F9 N9 d9
        obtain ⟨n0, n1, n2, e, hb⟩ := nums_three ns
        rw [e] at hI9
        obtain ⟨t0, t1, t2, rfl⟩ := ints3 hI9
        refine hret _ ⟨D9, n0, n1, n2, t0, t1, t2, o9, hb, l9.2.2.2.1, l9.2.2.2.2.2.2.2.2.2, d9, h9, _, rfl, F9, news_sl N9 (by walk_at "my sub")⟩
      · intro s' hs9
        obtain ⟨D2, n0, n1, n2, t0, t1, t2, o6', hn0, lD, lT, d6', h3, tk3, rfl, F2, N2⟩ := hs9
        revert F2
        generalize (fun z => if z = Str.ofString "drawn" then some (Value.ref D) else if z = Str.ofString "script" then some (Value.ref a) else none) = m0
        intro F2
        clear F1 N1 h2 tk2 hI1 hn1 hn2 hn3 hn4 hn5 hn6 hn7 hl1 hl2 hlen ys D a vs ns d6 o6
        refine stage (fun s' => ∃ sz t o1', (sz = 3 ∨ sz = 6) ∧ Obj.data o1' = Data.cell (some (.int sz t)) ∧   At g L s1 m0 [(D2, W.listOf (List.toArray [.int n0 t0, .int n1 t1, .int n2 t2]) 0), (L + 1 + 1 + 1 + 1 + 1 + 1, o1'), (L + 1 + 1 + 1 + 1 + 1, o2), (L + 1 + 1 + 1 + 1, o3), (L + 1 + 1 + 1, o4), (L + 1 + 1, o5), (L + 1, o6'), (105, tabObj #[])] s') ?_ ?_
        · intro Q9 hret
          k_steps
          all_goals (rename_i h9 o9 F9 N9 d9; refine hret _ ⟨_, _, o9, ?_, d9, h9, _, rfl, F9, news_sl N9 (by walk_at "my sub")⟩; first | exact .inl rfl | exact .inr rfl)
        · intro s' hs9
          obtain ⟨sz, tz, o1', hsz, d1', h4, tk4, rfl, F3, N3⟩ := hs9
          clear F2 N2 h3 tk3 d1 o1
          rcases hsz with rfl | rfl
          · skip
            refine stage (fun s' => ∃ bs i0 i1 i2 tr, KBw.bInts bs = [i0, i1, i2] ∧   At g L s1 (fun z => if z = Str.ofString "row" then some (.bytes bs tr) else m0 z) [(D2, W.listOf (List.toArray [.int n0 t0, .int n1 t1, .int n2 t2]) 0), (L + 1 + 1 + 1 + 1 + 1 + 1, o1'), (L + 1 + 1 + 1 + 1 + 1, o2), (L + 1 + 1 + 1 + 1, o3), (L + 1 + 1 + 1, o4), (L + 1 + 1, o5), (L + 1, o6'), (105, tabObj #[])] s') ?_ ?_
            · intro Q9 hret
              k_steps
              rename_i h9 F9 N9
              exact hret _ ⟨_, _, _, _, _, KBa.ints_make kbaIn, h9, _, rfl, F9, news_sl N9 (by walk_at "my sub")⟩
            · intro s' hs9
              obtain ⟨bs, i0, i1, i2, tr, hbs, h5, tk5, rfl, F4, N4⟩ := hs9
              clear F3 N3 h4 tk4 hn0
              refine stage (fun s' => ∃ x y ta o4', OkPair x y ∧ Obj.data o4' = Data.cell (some (.bytes (byteArr [x, y]) ta)) ∧   At g L s1 (fun z => if z = Str.ofString "row" then some (.bytes bs tr) else m0 z) [(L + 1 + 1 + 1 + 1 + 1 + 1, o1'), (L + 1 + 1 + 1 + 1 + 1, o2), (L + 1 + 1 + 1 + 1, o3), (L + 1 + 1 + 1, o4'), (L + 1 + 1, o5), (L + 1, o6'), (105, tabObj #[])] s') ?_ ?_
              · intro Q9 hret
                k_steps
                rename_i h9 o9 F9 N9 d9
                exact hret _ ⟨_, _, _, o9, signs_ok _, d9, h9, _, rfl, F9, news_sl N9 (by walk_at "my sub")⟩
              · intro s' hs9
                obtain ⟨x, y, ta, o4', hok, d4', h6, tk6, rfl, F5, N5⟩ := hs9
                clear F4 N4 h5 tk5 d6' lD lT
                clear t0 t1 t2 n0 n1 n2 D2 d4 o4
                refine stage (fun s' => ∃ fc tf o5', KBw.bInts fc = faceL x y ∧ Obj.data o5' = Data.cell (some (.bytes fc tf)) ∧   At g L s1 (fun z => if z = Str.ofString "row" then some (.bytes bs tr) else m0 z) [(L + 1 + 1 + 1 + 1 + 1 + 1, o1'), (L + 1 + 1 + 1 + 1 + 1, o2), (L + 1 + 1 + 1 + 1, o3), (L + 1 + 1 + 1, o4'), (L + 1 + 1, o5'), (L + 1, o6'), (105, tabObj #[])] s') ?_ ?_
                · intro Q9 hret
                  k_steps
                  rename_i h9 o9 F9 N9 d9
                  refine hret _ ⟨_, _, o9, ?_, d9, h9, _, rfl, F9, news_sl N9 (by walk_at "my sub")⟩
                  refine (KBw.ints_list _).trans ?_
                  have e9 : (byteArr [x, y]).toList.map (fun c => (c.toNat : Int)) = [x, y] := KBa.ints_make (in_pair hok)
                  simp only [List.map_cons]
                  rw [e9]
                  rfl
                · intro s' hs9
                  obtain ⟨fc, tf, o5', hfc, d5', h7, tk7, rfl, F6, N6⟩ := hs9
                  clear F5 N5 h6 tk6 d5 o5
                  refine stage (fun s' => ∃ D S rs ys o2', Rises x y S rs ∧ IntsAre ys rs ∧ (L + 1 + 1 + 1 + 1 + 1 + 1 ≠ D ∧ L + 1 + 1 + 1 + 1 + 1 ≠ D ∧ L + 1 + 1 + 1 + 1 ≠ D ∧ L + 1 + 1 + 1 ≠ D ∧ L + 1 + 1 ≠ D ∧ L + 1 ≠ D ∧ 105 ≠ D) ∧ Obj.data o2' = Data.cell (some (.ref D)) ∧   At g L s1 (fun z => if z = Str.ofString "row" then some (.bytes bs tr) else m0 z) [(D, LCg.lst ys), (L + 1 + 1 + 1 + 1 + 1 + 1, o1'), (L + 1 + 1 + 1 + 1 + 1, o2'), (L + 1 + 1 + 1 + 1, o3), (L + 1 + 1 + 1, o4'), (L + 1 + 1, o5'), (L + 1, o6'), (105, tabObj #[])] s') ?_ ?_
                  · intro Q9 hret
                    k_steps
                    rename_i hkla ga hI9 hLa D9 h8 tk8 o8 h9 o9 F9 N9 d9
                    exact hret _ ⟨D9, S', _, ys, o9, ⟨hp', hs', rfl⟩, hI9, o8.2, d9, h9, _, rfl, F9, news_sl N9 (by walk_at "my sub")⟩
                  · intro s' hs9
                    obtain ⟨D, S, rs, ys, o2', hR, hI, ⟨hn1, hn2, hn3, hn4, hn5, hn6, hn7⟩, d2', h8, tk8, rfl, F7, N7⟩ := hs9
                    clear F6 N6 h7 tk7 d2 o2
                    refine stage (fun s' => ∃ v tv, v = (i0 * 256 + i1) * 256 + i2 ∧   At g L s1 (fun z => if z = Str.ofString "value" then some (.int v tv) else if z = Str.ofString "row" then some (.bytes bs tr) else m0 z) [(D, LCg.lst ys), (L + 1 + 1 + 1 + 1 + 1 + 1, o1'), (L + 1 + 1 + 1 + 1 + 1, o2'), (L + 1 + 1 + 1 + 1, o3), (L + 1 + 1 + 1, o4'), (L + 1 + 1, o5'), (L + 1, o6'), (105, tabObj #[])] s') ?_ ?_
                    · intro Q9 hret
                      k_steps
                      rename_i h9 F9 N9
                      exact hret _ ⟨_, _, rfl, h9, _, rfl, F9, news_sl N9 (by walk_at "my sub")⟩
                    · intro s' hs9
                      obtain ⟨v, tv, hv, h9, tk9, rfl, F8, N8⟩ := hs9
                      clear F7 N7 h8 tk8 d5' hfc tf fc
                      have hin := pos_bytes hbs
                      simp only [List.forall_mem_cons] at hin
                      have hv0 : 0 ≤ v := by omega
                      have hv1 : v < 256 ^ 3 := by omega
                      clear hin
                      refine stage (fun s' => ∃ tc o3', Obj.data o3' = Data.cell (some (.int 4 tc)) ∧   At g L s1 (fun z => if z = Str.ofString "value" then some (.int v tv) else if z = Str.ofString "row" then some (.bytes bs tr) else m0 z) [(D, LCg.lst ys), (L + 1 + 1 + 1 + 1 + 1 + 1, o1'), (L + 1 + 1 + 1 + 1 + 1, o2'), (L + 1 + 1 + 1 + 1, o3'), (L + 1 + 1 + 1, o4'), (L + 1 + 1, o5'), (L + 1, o6'), (105, tabObj #[])] s') ?_ ?_
                      · intro Q9 hret
                        k_steps
                        rename_i h9 o9 F9 N9 d9
                        exact hret _ ⟨_, o9, d9, h9, _, rfl, F9, news_sl N9 (by walk_at "my sub")⟩
                      · intro s' hs9
                        obtain ⟨tc, o3', d3', ha, tka, rfl, F9, N9⟩ := hs9
                        clear F8 N8 h9 tk9 d3 o3
                        refine stage (fun s' => ∃ td, At g L s1 (fun z => if z = Str.ofString "due" then some (.int 0 td) else if z = Str.ofString "value" then some (.int v tv) else if z = Str.ofString "row" then some (.bytes bs tr) else m0 z) [(D, LCg.lst ys), (L + 1 + 1 + 1 + 1 + 1 + 1, o1'), (L + 1 + 1 + 1 + 1 + 1, o2'), (L + 1 + 1 + 1 + 1, o3'), (L + 1 + 1 + 1, o4'), (L + 1 + 1, o5'), (L + 1, o6'), (105, tabObj #[])] s') ?_ ?_
                        · intro Q9 hret
                          k_steps
                          rename_i h9 F9 N9
                          exact hret _ ⟨_, h9, _, rfl, F9, news_sl N9 (by walk_at "my sub")⟩
                        · intro s' hs9
                          obtain ⟨td, hb, tkb, rfl, Fa, Na⟩ := hs9
                          clear F9 N9 ha tka
                          refine stage (fun s' => ∃ (td' : Tok) (m1 : Str → Option Value), At g L s1 (fun z => if z = Str.ofString "due" then some (.int (dueOf rs 4 v) td') else if z = Str.ofString "value" then some (.int v tv) else if z = Str.ofString "row" then some (.bytes bs tr) else m1 z) [(D, LCg.lst ys), (L + 1 + 1 + 1 + 1 + 1 + 1, o1'), (L + 1 + 1 + 1 + 1 + 1, o2'), (L + 1 + 1 + 1 + 1, o3'), (L + 1 + 1 + 1, o4'), (L + 1 + 1, o5'), (L + 1, o6'), (105, tabObj #[])] s') ?_ ?_
                          · intro Q9 hret
                            k_steps
                            rename_i tq h9 tk9 F9 N9
                            refine hret _ ⟨tq, _, h9, _, rfl, fr_three F9 ?_ ?_ ?_, news_sl N9 (by walk_at "my sub")⟩
                            · exact congrArg (fun z => some (Value.int z tq)) (due4 rs v)
                            · rfl
                            · rfl
                          · intro s' hs9
                            obtain ⟨td', m1, hc, tkc, rfl, Fb, Nb⟩ := hs9
                            clear Fa Na hb tkb
                            refine stage (fun s' => ∃ (f c : Nat) (fo oc : Obj) (Pre : Heap → Prop), Lam Challenge.rw_mr0018_01.row.prog w (hd.heap_39 w.params) p9 loose9 mean9 mg mb f (64 ^ 4) (W64 x y rs 4) Pre ∧   (∀ h, News g L h [(f, fo), (c, oc), (D, LCg.lst ys), (L + 1 + 1 + 1 + 1 + 1 + 1, o1'), (L + 1 + 1 + 1 + 1 + 1, o2'), (L + 1 + 1 + 1 + 1, o3'), (L + 1 + 1 + 1, o4'), (L + 1 + 1, o5'), (L + 1, o6'), (105, tabObj (#[] ++ #[rawInt ((115 : Nat) : Int), rawInt ((14 : Nat) : Int), Value.ref c]))] → Pre h) ∧   (c < f ∧ D < c ∧ L + 1 + 1 + 1 + 1 + 1 + 1 < c ∧ 105 < c) ∧   At g L s1 (fun z => if z = Str.ofString "writing" then some (.ref f) else if z = Str.ofString "due" then some (.int (dueOf rs 4 v) td') else if z = Str.ofString "value" then some (.int v tv) else if z = Str.ofString "row" then some (.bytes bs tr) else m1 z) [(f, fo), (c, oc), (D, LCg.lst ys), (L + 1 + 1 + 1 + 1 + 1 + 1, o1'), (L + 1 + 1 + 1 + 1 + 1, o2'), (L + 1 + 1 + 1 + 1, o3'), (L + 1 + 1 + 1, o4'), (L + 1 + 1, o5'), (L + 1, o6'), (105, tabObj (#[] ++ #[rawInt ((115 : Nat) : Int), rawInt ((14 : Nat) : Int), Value.ref c]))] s') ?_ ?_
                            · intro Q9 hret
                              k_steps
                              rename_i f9 c9 oc9 vs9 t9 ct9 h8 tk8 e1 e2 l1 l2 h9 F9 N9
                              refine pack N9 ?_
                              intro fo hfo N10
                              refine hret _ ⟨f9, c9, fo, oc9, Lie [(f9, fo), (c9, oc9), (D, LCg.lst ys), (L + 1 + 1 + 1 + 1 + 1, o2'), (L + 1 + 1 + 1 + 1, o3'), (L + 1 + 1 + 1, o4')], ?_, fun h N => Lie.of_sl N (by walk_at "my sub"), ⟨l2, l1.1, l1.2.1, l1.2.2.2.2.2.2.2⟩, h9, _, rfl, F9, N10⟩
                              subst hfo
                              clear hret Q9 F9 N9 N10 h9 h8 tk8 K' X' T9 C0
                              refine ⟨fun h h' hp st => hp.keeps st, fun h hp => ⟨_, _, _, _, hp _ (.head _)⟩, ?_⟩
                              intro k t hk0 hk1 dp un gd cn cs a ccd cl outer A0 base h0 Lk m s Q E B F X T hk hd hu hpre hq
                              have q1 := hpre _ (.head _)
                              have q2 : s.heap.get? c9 = some oc9 := hpre _ (.tail _ (.head _))
                              have q3 : s.heap.get? D = some (LCg.lst ys) := hpre _ (.tail _ (.tail _ (.head _)))
                              have q4 : s.heap.get? (L + 1 + 1 + 1 + 1 + 1) = some o2' := hpre _ (.tail _ (.tail _ (.tail _ (.head _))))
                              have q5 : s.heap.get? (L + 1 + 1 + 1 + 1) = some o3' := hpre _ (.tail _ (.tail _ (.tail _ (.tail _ (.head _)))))
                              have q6 : s.heap.get? (L + 1 + 1 + 1) = some o4' := hpre _ (.tail _ (.tail _ (.tail _ (.tail _ (.tail _ (.head _))))))
                              refine wpAny_call ?_
                              k_dflt (refine' enter_lam ?k1 ?k2 ?k3 ?k5 ?kA ?kF ?kK ?ho ?hcd ?k8 ?k9 ?kB ?_ ?c2 ?c3 ?c4 ?c5; (case ho => exact q1); (case hcd => exact ⟨c9, oc9, vs9, t9, rfl, q2, e1, e2⟩); (case kA => exact rfl); (case kF => exact rfl); (case kK => first | exact rfl | assumption); (case k1 => k_asm); (case k2 => k_asm); (case k3 => k_asm); (case k5 => k_asm); (case k8 => ktr_room); (case k9 => exact rfl); (case kB => exact locs rfl); (case c2 => exact rfl); (case c3 => exact rfl); (case c4 => exact rfl); (case c5 => decide); k_whole)
                              clear q1 hpre
                              intro L' h' F' N' B' X' T'
                              (try dsimp only)
                              (try k_fold)
                              k_steps
                              exact hq _ _ _ F'.keep ⟨_, congrArg (fun z => Value.bytes z _) (W64_4 k)⟩
                            · intro s' hs9
                              obtain ⟨f, c, fo, oc, PreW, hLam, hPre, ⟨hf1, hf2, hf3, hf4⟩, hd, tkd, rfl, Fc, Nc⟩ := hs9
                              clear Fb Nb hc tkc
                              refine stage (fun s' => At g L s1 (fun z => if z = Str.ofString "writing" then some (.ref f) else if z = Str.ofString "due" then some (.int (dueOf rs 4 v) td') else if z = Str.ofString "value" then some (.int v tv) else if z = Str.ofString "row" then some (.bytes bs tr) else m1 z) [(f, fo), (c, oc), (D, LCg.lst ys), (L + 1 + 1 + 1 + 1 + 1 + 1, o1'), (L + 1 + 1 + 1 + 1 + 1, o2'), (L + 1 + 1 + 1 + 1, o3'), (L + 1 + 1 + 1, o4'), (L + 1 + 1, o5'), (L + 1, o6'), (105, tabObj (#[] ++ #[rawInt ((115 : Nat) : Int), rawInt ((14 : Nat) : Int), Value.ref c]))] s') ?_ ?_
                              · intro Q9 hret
                                k_steps
                                · exact absurd rfl (by assumption)
                                · exact hret _ ⟨h9, tk9, rfl, F', N'⟩
                              · intro s' hs9
                                obtain ⟨he, tke, rfl, Fd, Nd⟩ := hs9
                                clear Fc Nc hd tkd hLam hPre PreW
                                refine stage (fun s' => ∃ (f2 c2 : Nat) (fo oc : Obj) (ps : Array Value) (Pre : Heap → Prop) (m2 : Str → Option Value), Lam Challenge.rw_mr0018_01.row.prog w (hd.heap_39 w.params) p9 loose9 mean9 mg mb f2 (256 ^ 3) (fun k => hexU (byteArr (figs k 256 3))) Pre ∧   (∀ h, News g L h [(f2, fo), (c2, oc), (L + 1 + 1 + 1 + 1 + 1 + 1, o1'), (L + 1 + 1 + 1 + 1 + 1, o2'), (L + 1 + 1 + 1 + 1, o3'), (L + 1 + 1 + 1, o4'), (L + 1 + 1, o5'), (L + 1, o6'), (105, tabObj ps)] → Pre h) ∧   At g L s1 (fun z => if z = Str.ofString "plain" then some (.ref f2) else if z = Str.ofString "value" then some (.int v tv) else if z = Str.ofString "row" then some (.bytes bs tr) else m2 z) [(f2, fo), (c2, oc), (L + 1 + 1 + 1 + 1 + 1 + 1, o1'), (L + 1 + 1 + 1 + 1 + 1, o2'), (L + 1 + 1 + 1 + 1, o3'), (L + 1 + 1 + 1, o4'), (L + 1 + 1, o5'), (L + 1, o6'), (105, tabObj ps)] s') ?_ ?_
                                · intro Q9 hret
                                  k_steps
                                  rename_i f9 c9 oc9 vs9 t9 ct9 h8 tk8 e1 e2 l1 l2 h9 F9 N9
                                  refine pack N9 ?_
                                  intro fo hfo N10
                                  refine hret _ ⟨f9, c9, fo, oc9, _, Lie [(f9, fo), (c9, oc9), (L + 1 + 1 + 1 + 1 + 1 + 1, o1')], _, ?_, fun h N => Lie.of_sl N (by walk_at "my sub"), h9, _, rfl, fr_three F9 rfl rfl rfl, news_drop3 N10⟩
                                  subst hfo
                                  clear hret Q9 F9 N9 N10 h9 h8 tk8 K' X' T9 C0 hf1 hf2 hf3 hf4 hn1 hn2 hn3 hn4 hn5 hn6 hn7
                                  refine ⟨fun h h' hp st => hp.keeps st, fun h hp => ⟨_, _, _, _, hp _ (.head _)⟩, ?_⟩
                                  intro k t hk0 hk1 dp un gd cn cs a ccd cl outer A0 base h0 Lk m s Q E B F X T hk hd hu hpre hq
                                  have q1 := hpre _ (.head _)
                                  have q2 : s.heap.get? c9 = some oc9 := hpre _ (.tail _ (.head _))
                                  have q3 : s.heap.get? (L + 1 + 1 + 1 + 1 + 1 + 1) = some o1' := hpre _ (.tail _ (.tail _ (.head _)))
                                  refine wpAny_call ?_
                                  k_dflt (refine' enter_lam ?k1 ?k2 ?k3 ?k5 ?kA ?kF ?kK ?ho ?hcd ?k8 ?k9 ?kB ?_ ?c2 ?c3 ?c4 ?c5; (case ho => exact q1); (case hcd => exact ⟨c9, oc9, vs9, t9, rfl, q2, e1, e2⟩); (case kA => exact rfl); (case kF => exact rfl); (case kK => first | exact rfl | assumption); (case k1 => k_asm); (case k2 => k_asm); (case k3 => k_asm); (case k5 => k_asm); (case k8 => ktr_room); (case k9 => exact rfl); (case kB => exact locs rfl); (case c2 => exact rfl); (case c3 => exact rfl); (case c4 => exact rfl); (case c5 => decide); k_whole)
                                  clear q1 hpre
                                  intro L' h' F' N' B' X' T'
                                  (try dsimp only)
                                  (try k_fold)
                                  k_steps
                                  exact hq _ _ _ F'.keep ⟨_, rfl⟩
                                · intro s' hs9
                                  obtain ⟨f2, c2, fo2, oc2, ps, PreP, m2, hLam, hPre, hf, tkf, rfl, Fe, Ne⟩ := hs9
                                  clear Fd Nd he tke
                                  refine last_stage ?_
                                  intro Q9 hret
                                  k_steps
                                  have e9 : (v == v) = true := beq_self_eq_true v
                                  rw [e9]
                                  exact hret _ _ _ ps ⟨h9, tk9, rfl, F', N'⟩ (by walk_at "my mem")
          · skip
            refine stage (fun s' => ∃ bs i0 i1 i2 i3 i4 i5 tr, KBw.bInts bs = [i0, i1, i2, i3, i4, i5] ∧   At g L s1 (fun z => if z = Str.ofString "row" then some (.bytes bs tr) else m0 z) [(D2, W.listOf (List.toArray [.int n0 t0, .int n1 t1, .int n2 t2]) 0), (L + 1 + 1 + 1 + 1 + 1 + 1, o1'), (L + 1 + 1 + 1 + 1 + 1, o2), (L + 1 + 1 + 1 + 1, o3), (L + 1 + 1 + 1, o4), (L + 1 + 1, o5), (L + 1, o6'), (105, tabObj #[])] s') ?_ ?_
            · intro Q9 hret
              k_steps
              rename_i h9 F9 N9
              exact hret _ ⟨_, _, _, _, _, _, _, _, KBa.ints_make kbaIn, h9, _, rfl, F9, news_sl N9 (by walk_at "my sub")⟩
            · intro s' hs9
              obtain ⟨bs, i0, i1, i2, i3, i4, i5, tr, hbs, h5, tk5, rfl, F4, N4⟩ := hs9
              clear F3 N3 h4 tk4 hn0
              refine stage (fun s' => ∃ x y ta o4', OkPair x y ∧ Obj.data o4' = Data.cell (some (.bytes (byteArr [x, y]) ta)) ∧   At g L s1 (fun z => if z = Str.ofString "row" then some (.bytes bs tr) else m0 z) [(L + 1 + 1 + 1 + 1 + 1 + 1, o1'), (L + 1 + 1 + 1 + 1 + 1, o2), (L + 1 + 1 + 1 + 1, o3), (L + 1 + 1 + 1, o4'), (L + 1 + 1, o5), (L + 1, o6'), (105, tabObj #[])] s') ?_ ?_
              · intro Q9 hret
                k_steps
                rename_i h9 o9 F9 N9 d9
                exact hret _ ⟨_, _, _, o9, signs_ok _, d9, h9, _, rfl, F9, news_sl N9 (by walk_at "my sub")⟩
              · intro s' hs9
                obtain ⟨x, y, ta, o4', hok, d4', h6, tk6, rfl, F5, N5⟩ := hs9
                clear F4 N4 h5 tk5 d6' lD lT
                clear t0 t1 t2 n0 n1 n2 D2 d4 o4
                refine stage (fun s' => ∃ fc tf o5', KBw.bInts fc = faceL x y ∧ Obj.data o5' = Data.cell (some (.bytes fc tf)) ∧   At g L s1 (fun z => if z = Str.ofString "row" then some (.bytes bs tr) else m0 z) [(L + 1 + 1 + 1 + 1 + 1 + 1, o1'), (L + 1 + 1 + 1 + 1 + 1, o2), (L + 1 + 1 + 1 + 1, o3), (L + 1 + 1 + 1, o4'), (L + 1 + 1, o5'), (L + 1, o6'), (105, tabObj #[])] s') ?_ ?_
                · intro Q9 hret
                  k_steps
                  rename_i h9 o9 F9 N9 d9
                  refine hret _ ⟨_, _, o9, ?_, d9, h9, _, rfl, F9, news_sl N9 (by walk_at "my sub")⟩
                  refine (KBw.ints_list _).trans ?_
                  have e9 : (byteArr [x, y]).toList.map (fun c => (c.toNat : Int)) = [x, y] := KBa.ints_make (in_pair hok)
                  simp only [List.map_cons]
                  rw [e9]
                  rfl
                · intro s' hs9
                  obtain ⟨fc, tf, o5', hfc, d5', h7, tk7, rfl, F6, N6⟩ := hs9
                  clear F5 N5 h6 tk6 d5 o5
                  refine stage (fun s' => ∃ D S rs ys o2', Rises x y S rs ∧ IntsAre ys rs ∧ (L + 1 + 1 + 1 + 1 + 1 + 1 ≠ D ∧ L + 1 + 1 + 1 + 1 + 1 ≠ D ∧ L + 1 + 1 + 1 + 1 ≠ D ∧ L + 1 + 1 + 1 ≠ D ∧ L + 1 + 1 ≠ D ∧ L + 1 ≠ D ∧ 105 ≠ D) ∧ Obj.data o2' = Data.cell (some (.ref D)) ∧   At g L s1 (fun z => if z = Str.ofString "row" then some (.bytes bs tr) else m0 z) [(D, LCg.lst ys), (L + 1 + 1 + 1 + 1 + 1 + 1, o1'), (L + 1 + 1 + 1 + 1 + 1, o2'), (L + 1 + 1 + 1 + 1, o3), (L + 1 + 1 + 1, o4'), (L + 1 + 1, o5'), (L + 1, o6'), (105, tabObj #[])] s') ?_ ?_
                  · intro Q9 hret
                    k_steps
                    rename_i hkla ga hI9 hLa D9 h8 tk8 o8 h9 o9 F9 N9 d9
                    exact hret _ ⟨D9, S', _, ys, o9, ⟨hp', hs', rfl⟩, hI9, o8.2, d9, h9, _, rfl, F9, news_sl N9 (by walk_at "my sub")⟩
                  · intro s' hs9
                    obtain ⟨D, S, rs, ys, o2', hR, hI, ⟨hn1, hn2, hn3, hn4, hn5, hn6, hn7⟩, d2', h8, tk8, rfl, F7, N7⟩ := hs9
                    clear F6 N6 h7 tk7 d2 o2
                    refine stage (fun s' => ∃ v tv, v = ((((i0 * 256 + i1) * 256 + i2) * 256 + i3) * 256 + i4) * 256 + i5 ∧   At g L s1 (fun z => if z = Str.ofString "value" then some (.int v tv) else if z = Str.ofString "row" then some (.bytes bs tr) else m0 z) [(D, LCg.lst ys), (L + 1 + 1 + 1 + 1 + 1 + 1, o1'), (L + 1 + 1 + 1 + 1 + 1, o2'), (L + 1 + 1 + 1 + 1, o3), (L + 1 + 1 + 1, o4'), (L + 1 + 1, o5'), (L + 1, o6'), (105, tabObj #[])] s') ?_ ?_
                    · intro Q9 hret
                      k_steps
                      rename_i h9 F9 N9
                      exact hret _ ⟨_, _, rfl, h9, _, rfl, F9, news_sl N9 (by walk_at "my sub")⟩
                    · intro s' hs9
                      obtain ⟨v, tv, hv, h9, tk9, rfl, F8, N8⟩ := hs9
                      clear F7 N7 h8 tk8 d5' hfc tf fc
                      have hin := pos_bytes hbs
                      simp only [List.forall_mem_cons] at hin
                      have hv0 : 0 ≤ v := by omega
                      have hv1 : v < 256 ^ 6 := by omega
                      clear hin
                      refine stage (fun s' => ∃ tc o3', Obj.data o3' = Data.cell (some (.int 8 tc)) ∧   At g L s1 (fun z => if z = Str.ofString "value" then some (.int v tv) else if z = Str.ofString "row" then some (.bytes bs tr) else m0 z) [(D, LCg.lst ys), (L + 1 + 1 + 1 + 1 + 1 + 1, o1'), (L + 1 + 1 + 1 + 1 + 1, o2'), (L + 1 + 1 + 1 + 1, o3'), (L + 1 + 1 + 1, o4'), (L + 1 + 1, o5'), (L + 1, o6'), (105, tabObj #[])] s') ?_ ?_
                      · intro Q9 hret
                        k_steps
                        rename_i h9 o9 F9 N9 d9
                        exact hret _ ⟨_, o9, d9, h9, _, rfl, F9, news_sl N9 (by walk_at "my sub")⟩
                      · intro s' hs9
                        obtain ⟨tc, o3', d3', ha, tka, rfl, F9, N9⟩ := hs9
                        clear F8 N8 h9 tk9 d3 o3
                        refine stage (fun s' => ∃ td, At g L s1 (fun z => if z = Str.ofString "due" then some (.int 0 td) else if z = Str.ofString "value" then some (.int v tv) else if z = Str.ofString "row" then some (.bytes bs tr) else m0 z) [(D, LCg.lst ys), (L + 1 + 1 + 1 + 1 + 1 + 1, o1'), (L + 1 + 1 + 1 + 1 + 1, o2'), (L + 1 + 1 + 1 + 1, o3'), (L + 1 + 1 + 1, o4'), (L + 1 + 1, o5'), (L + 1, o6'), (105, tabObj #[])] s') ?_ ?_
                        · intro Q9 hret
                          k_steps
                          rename_i h9 F9 N9
                          exact hret _ ⟨_, h9, _, rfl, F9, news_sl N9 (by walk_at "my sub")⟩
                        · intro s' hs9
                          obtain ⟨td, hb, tkb, rfl, Fa, Na⟩ := hs9
                          clear F9 N9 ha tka
                          refine stage (fun s' => ∃ (td' : Tok) (m1 : Str → Option Value), At g L s1 (fun z => if z = Str.ofString "due" then some (.int (dueOf rs 8 v) td') else if z = Str.ofString "value" then some (.int v tv) else if z = Str.ofString "row" then some (.bytes bs tr) else m1 z) [(D, LCg.lst ys), (L + 1 + 1 + 1 + 1 + 1 + 1, o1'), (L + 1 + 1 + 1 + 1 + 1, o2'), (L + 1 + 1 + 1 + 1, o3'), (L + 1 + 1 + 1, o4'), (L + 1 + 1, o5'), (L + 1, o6'), (105, tabObj #[])] s') ?_ ?_
                          · intro Q9 hret
                            k_steps
                            rename_i tq h9 tk9 F9 N9
                            refine hret _ ⟨tq, _, h9, _, rfl, fr_three F9 ?_ ?_ ?_, news_sl N9 (by walk_at "my sub")⟩
                            · exact congrArg (fun z => some (Value.int z tq)) (due8 rs v)
                            · rfl
                            · rfl
                          · intro s' hs9
                            obtain ⟨td', m1, hc, tkc, rfl, Fb, Nb⟩ := hs9
                            clear Fa Na hb tkb
                            refine stage (fun s' => ∃ (f c : Nat) (fo oc : Obj) (Pre : Heap → Prop), Lam Challenge.rw_mr0018_01.row.prog w (hd.heap_39 w.params) p9 loose9 mean9 mg mb f (64 ^ 8) (W64 x y rs 8) Pre ∧   (∀ h, News g L h [(f, fo), (c, oc), (D, LCg.lst ys), (L + 1 + 1 + 1 + 1 + 1 + 1, o1'), (L + 1 + 1 + 1 + 1 + 1, o2'), (L + 1 + 1 + 1 + 1, o3'), (L + 1 + 1 + 1, o4'), (L + 1 + 1, o5'), (L + 1, o6'), (105, tabObj (#[] ++ #[rawInt ((115 : Nat) : Int), rawInt ((14 : Nat) : Int), Value.ref c]))] → Pre h) ∧   (c < f ∧ D < c ∧ L + 1 + 1 + 1 + 1 + 1 + 1 < c ∧ 105 < c) ∧   At g L s1 (fun z => if z = Str.ofString "writing" then some (.ref f) else if z = Str.ofString "due" then some (.int (dueOf rs 8 v) td') else if z = Str.ofString "value" then some (.int v tv) else if z = Str.ofString "row" then some (.bytes bs tr) else m1 z) [(f, fo), (c, oc), (D, LCg.lst ys), (L + 1 + 1 + 1 + 1 + 1 + 1, o1'), (L + 1 + 1 + 1 + 1 + 1, o2'), (L + 1 + 1 + 1 + 1, o3'), (L + 1 + 1 + 1, o4'), (L + 1 + 1, o5'), (L + 1, o6'), (105, tabObj (#[] ++ #[rawInt ((115 : Nat) : Int), rawInt ((14 : Nat) : Int), Value.ref c]))] s') ?_ ?_
                            · intro Q9 hret
                              k_steps
                              rename_i f9 c9 oc9 vs9 t9 ct9 h8 tk8 e1 e2 l1 l2 h9 F9 N9
                              refine pack N9 ?_
                              intro fo hfo N10
                              refine hret _ ⟨f9, c9, fo, oc9, Lie [(f9, fo), (c9, oc9), (D, LCg.lst ys), (L + 1 + 1 + 1 + 1 + 1, o2'), (L + 1 + 1 + 1 + 1, o3'), (L + 1 + 1 + 1, o4')], ?_, fun h N => Lie.of_sl N (by walk_at "my sub"), ⟨l2, l1.1, l1.2.1, l1.2.2.2.2.2.2.2⟩, h9, _, rfl, F9, N10⟩
                              subst hfo
                              clear hret Q9 F9 N9 N10 h9 h8 tk8 K' X' T9 C0
                              refine ⟨fun h h' hp st => hp.keeps st, fun h hp => ⟨_, _, _, _, hp _ (.head _)⟩, ?_⟩
                              intro k t hk0 hk1 dp un gd cn cs a ccd cl outer A0 base h0 Lk m s Q E B F X T hk hd hu hpre hq
                              have q1 := hpre _ (.head _)
                              have q2 : s.heap.get? c9 = some oc9 := hpre _ (.tail _ (.head _))
                              have q3 : s.heap.get? D = some (LCg.lst ys) := hpre _ (.tail _ (.tail _ (.head _)))
                              have q4 : s.heap.get? (L + 1 + 1 + 1 + 1 + 1) = some o2' := hpre _ (.tail _ (.tail _ (.tail _ (.head _))))
                              have q5 : s.heap.get? (L + 1 + 1 + 1 + 1) = some o3' := hpre _ (.tail _ (.tail _ (.tail _ (.tail _ (.head _)))))
                              have q6 : s.heap.get? (L + 1 + 1 + 1) = some o4' := hpre _ (.tail _ (.tail _ (.tail _ (.tail _ (.tail _ (.head _))))))
                              refine wpAny_call ?_
                              k_dflt (refine' enter_lam ?k1 ?k2 ?k3 ?k5 ?kA ?kF ?kK ?ho ?hcd ?k8 ?k9 ?kB ?_ ?c2 ?c3 ?c4 ?c5; (case ho => exact q1); (case hcd => exact ⟨c9, oc9, vs9, t9, rfl, q2, e1, e2⟩); (case kA => exact rfl); (case kF => exact rfl); (case kK => first | exact rfl | assumption); (case k1 => k_asm); (case k2 => k_asm); (case k3 => k_asm); (case k5 => k_asm); (case k8 => ktr_room); (case k9 => exact rfl); (case kB => exact locs rfl); (case c2 => exact rfl); (case c3 => exact rfl); (case c4 => exact rfl); (case c5 => decide); k_whole)
                              clear q1 hpre
                              intro L' h' F' N' B' X' T'
                              (try dsimp only)
                              (try k_fold)
                              k_steps
                              exact hq _ _ _ F'.keep ⟨_, congrArg (fun z => Value.bytes z _) (W64_8 k)⟩
                            · intro s' hs9
                              obtain ⟨f, c, fo, oc, PreW, hLam, hPre, ⟨hf1, hf2, hf3, hf4⟩, hd, tkd, rfl, Fc, Nc⟩ := hs9
                              clear Fb Nb hc tkc
                              refine stage (fun s' => At g L s1 (fun z => if z = Str.ofString "writing" then some (.ref f) else if z = Str.ofString "due" then some (.int (dueOf rs 8 v) td') else if z = Str.ofString "value" then some (.int v tv) else if z = Str.ofString "row" then some (.bytes bs tr) else m1 z) [(f, fo), (c, oc), (D, LCg.lst ys), (L + 1 + 1 + 1 + 1 + 1 + 1, o1'), (L + 1 + 1 + 1 + 1 + 1, o2'), (L + 1 + 1 + 1 + 1, o3'), (L + 1 + 1 + 1, o4'), (L + 1 + 1, o5'), (L + 1, o6'), (105, tabObj (#[] ++ #[rawInt ((115 : Nat) : Int), rawInt ((14 : Nat) : Int), Value.ref c]))] s') ?_ ?_
                              · intro Q9 hret
                                k_steps
                                · exact absurd rfl (by assumption)
                                · exact hret _ ⟨h9, tk9, rfl, F', N'⟩
                              · intro s' hs9
                                obtain ⟨he, tke, rfl, Fd, Nd⟩ := hs9
                                clear Fc Nc hd tkd hLam hPre PreW
                                refine stage (fun s' => ∃ (f2 c2 : Nat) (fo oc : Obj) (ps : Array Value) (Pre : Heap → Prop) (m2 : Str → Option Value), Lam Challenge.rw_mr0018_01.row.prog w (hd.heap_39 w.params) p9 loose9 mean9 mg mb f2 (256 ^ 6) (fun k => hexU (byteArr (figs k 256 6))) Pre ∧   (∀ h, News g L h [(f2, fo), (c2, oc), (L + 1 + 1 + 1 + 1 + 1 + 1, o1'), (L + 1 + 1 + 1 + 1 + 1, o2'), (L + 1 + 1 + 1 + 1, o3'), (L + 1 + 1 + 1, o4'), (L + 1 + 1, o5'), (L + 1, o6'), (105, tabObj ps)] → Pre h) ∧   At g L s1 (fun z => if z = Str.ofString "plain" then some (.ref f2) else if z = Str.ofString "value" then some (.int v tv) else if z = Str.ofString "row" then some (.bytes bs tr) else m2 z) [(f2, fo), (c2, oc), (L + 1 + 1 + 1 + 1 + 1 + 1, o1'), (L + 1 + 1 + 1 + 1 + 1, o2'), (L + 1 + 1 + 1 + 1, o3'), (L + 1 + 1 + 1, o4'), (L + 1 + 1, o5'), (L + 1, o6'), (105, tabObj ps)] s') ?_ ?_
                                · intro Q9 hret
                                  k_steps
                                  rename_i f9 c9 oc9 vs9 t9 ct9 h8 tk8 e1 e2 l1 l2 h9 F9 N9
                                  refine pack N9 ?_
                                  intro fo hfo N10
                                  refine hret _ ⟨f9, c9, fo, oc9, _, Lie [(f9, fo), (c9, oc9), (L + 1 + 1 + 1 + 1 + 1 + 1, o1')], _, ?_, fun h N => Lie.of_sl N (by walk_at "my sub"), h9, _, rfl, fr_three F9 rfl rfl rfl, news_drop3 N10⟩
                                  subst hfo
                                  clear hret Q9 F9 N9 N10 h9 h8 tk8 K' X' T9 C0 hf1 hf2 hf3 hf4 hn1 hn2 hn3 hn4 hn5 hn6 hn7
                                  refine ⟨fun h h' hp st => hp.keeps st, fun h hp => ⟨_, _, _, _, hp _ (.head _)⟩, ?_⟩
                                  intro k t hk0 hk1 dp un gd cn cs a ccd cl outer A0 base h0 Lk m s Q E B F X T hk hd hu hpre hq
                                  have q1 := hpre _ (.head _)
                                  have q2 : s.heap.get? c9 = some oc9 := hpre _ (.tail _ (.head _))
                                  have q3 : s.heap.get? (L + 1 + 1 + 1 + 1 + 1 + 1) = some o1' := hpre _ (.tail _ (.tail _ (.head _)))
                                  refine wpAny_call ?_
                                  k_dflt (refine' enter_lam ?k1 ?k2 ?k3 ?k5 ?kA ?kF ?kK ?ho ?hcd ?k8 ?k9 ?kB ?_ ?c2 ?c3 ?c4 ?c5; (case ho => exact q1); (case hcd => exact ⟨c9, oc9, vs9, t9, rfl, q2, e1, e2⟩); (case kA => exact rfl); (case kF => exact rfl); (case kK => first | exact rfl | assumption); (case k1 => k_asm); (case k2 => k_asm); (case k3 => k_asm); (case k5 => k_asm); (case k8 => ktr_room); (case k9 => exact rfl); (case kB => exact locs rfl); (case c2 => exact rfl); (case c3 => exact rfl); (case c4 => exact rfl); (case c5 => decide); k_whole)
                                  clear q1 hpre
                                  intro L' h' F' N' B' X' T'
                                  (try dsimp only)
                                  (try k_fold)
                                  k_steps
                                  exact hq _ _ _ F'.keep ⟨_, rfl⟩
                                · intro s' hs9
                                  obtain ⟨f2, c2, fo2, oc2, ps, PreP, m2, hLam, hPre, hf, tkf, rfl, Fe, Ne⟩ := hs9
                                  clear Fd Nd he tke
                                  refine last_stage ?_
                                  intro Q9 hret
                                  k_steps
                                  have e9 : (v == v) = true := beq_self_eq_true v
                                  rw [e9]
                                  exact hret _ _ _ ps ⟨h9, tk9, rfl, F', N'⟩ (by walk_at "my mem")
end Mine

theorem PySem.Challenge.cw_mr0018_01_holds : PySem.Challenge.rw_mr0018_01.Holds :=
  Mine.lawGo
