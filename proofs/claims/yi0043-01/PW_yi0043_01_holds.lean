import PyProof.Rows.All
import Wide.All
import OpenK.AllK
import Wide.FinOn
import PySem.Challenge.RW_yi0043_01
open PySem PySem.W PySem.Calls PyProof.Rows
set_option Elab.async false
set_option maxRecDepth 100000
namespace Mine
def btIns : List Obj → Nat → BT → BT
  | [], _, t => t
  | o :: l, i, t => btIns l (i + 1) (t.ins i o)
noncomputable def treeBoot (P : Params) : BT := btIns (boot_heap P).objs.toList 0 .nil
def topRunG (ok : Thread → Bool) (stp : SharedT → Thread → Option (SharedT × Thread)) : Nat → SharedT → Thread → Option SharedT
  | 0, _, _ => none
  | n + 1, s, t => match through t with
    | true => some s
    | false => match ok t with
      | false => none
      | true => match stp s t with
        | some (s', t') => topRunG ok stp n s' t'
        | none => none
theorem topRun_ofT {tb : String → Option Builtin} {p : Program} {w : World} {n₀ : Nat} {ann : Option Value} :
    ∀ {n : Nat} {s s' : SharedT} {t : Thread}, topRunG (stepOk n₀ ann) (stepT (denote tb) p w) n s t = some s' → topRun tb p w n₀ ann n s.abs t = some s'.abs
  | 0, _, _, _, h => by cases h
  | n + 1, s, s', t, h => by
    unfold topRunG at h
    unfold topRun
    cases he : through t with
    | true => rw [he] at h; cases h; rfl
    | false =>
      rw [he] at h
      cases hk : stepOk n₀ ann t with
      | false => rw [hk] at h; cases h
      | true =>
        rw [hk] at h
        cases hs : stepT (denote tb) p w s t with
        | none => rw [hs] at h; cases h
        | some r => obtain ⟨s₂, t₂⟩ := r; rw [hs] at h; rw [stepT_spec hs]; exact topRun_ofT h

theorem boot_abs (P : Params) : absHeap (treeBoot P) 11 (boot_heap P).life = boot_heap P := by kernel_rfl
theorem boot_is (P : Params) : ((boot_heap P).isNs mainGlobals, (boot_heap P).objs.size, (boot_heap P).nsMap mainGlobals "__annotations__") = (true, 11, some (.ref 6)) := by kernel_rfl

theorem left_of {p q : Program} {loose : List Str} {Xt : Shared → Bool} {α : Type} {Yf : Shared → α} {Ya : World → α} {N : Nat}
    (e : opening p = plainProg p.main.scope.names) (hN : Nat.ble 600 N = true) (f : ∀ s, fenceModules? p s = some s)
    (h : ∀ (w : World) (os : OsState), (topRunG (stepOk 11 (some (.ref 6))) (stepT (denote treeTable) p w) N ⟨treeBoot w.params, 11, (boot_heap w.params).life, #[], boot_drawn, boot_toks, os⟩ (topStub p)).map (fun s =>
        (staticsOk (importedModules p.main.body) (boot_heap w.params) s.abs.heap && namesBound p s.abs.heap && gensDone s.abs && laidKept (boot_heap w.params) s.abs.heap,
         openSeen q loose (importedModules p.main.body) Xt true s.abs, Yf s.abs)) = some (true, openGood q loose, Ya w)) : LeftO p q loose Xt Yf Ya N := fun w => by
  obtain ⟨⟨hp, gs, d, k, os⟩, hs, hv⟩ := Option.map_eq_some_iff.mp (boot_open e hN f w)
  obtain ⟨rfl, rfl, rfl, rfl⟩ : hp = boot_heap w.params ∧ gs = Array.mk [] ∧ d = boot_drawn ∧ k = boot_toks := by simpa using hv
  obtain ⟨z1, z2, z3⟩ : _ ∧ _ ∧ _ := by simpa only [Prod.mk.injEq] using boot_is w.params
  obtain ⟨s, hr, hl⟩ := Option.map_eq_some_iff.mp (h w os)
  obtain ⟨l1, l2⟩ := Prod.mk.inj hl
  have r := topRun_ofT hr
  have ea : (SharedT.abs ⟨treeBoot w.params, 11, (boot_heap w.params).life, #[], boot_drawn, boot_toks, os⟩) = ⟨boot_heap w.params, Array.mk [], boot_drawn, boot_toks, os⟩ := by
    unfold SharedT.abs
    dsimp only
    rw [boot_abs]
  rw [ea] at r
  have t : topFrom treeTable p w N ⟨boot_heap w.params, Array.mk [], boot_drawn, boot_toks, os⟩ = some s.abs := by
    unfold topFrom
    dsimp only
    rw [z1, z2, z3, r]
    show (match staticsOk (importedModules p.main.body) (boot_heap w.params) s.abs.heap && namesBound p s.abs.heap && gensDone s.abs && laidKept (boot_heap w.params) s.abs.heap with | true => _ | false => _) = _
    rw [l1]
  unfold openEnds
  rw [hs]
  show (topFrom treeTable p w N ⟨boot_heap w.params, Array.mk [], boot_drawn, boot_toks, os⟩).map _ = _
  rw [t]
  exact congrArg some l2
def vw : Program := view PySem.Challenge.pw_yi0043_01 [0, 2, 3, 5, 6, 7, 9, 10, 11, 12, 13]
set_option maxHeartbeats 8000000 in
theorem k0 : OpenRow.wellSaid PySem.Challenge.rw_yi0043_01.row = true := by decide +kernel
set_option maxHeartbeats 8000000 in
theorem kl : OpenLaw.wellSaid PySem.Challenge.rw_yi0043_01 = true := by decide +kernel
section
open PySem.W.Fast
local macro_rules
  | `(tactic| o_law) => `(tactic| refine holds_law kl fun said => ?_)
local macro_rules
  | `(tactic| o_head $H) => `(tactic| refine holds_open (q := vw) (loose := [PySem.Str.ofString "PolynomialRing", PySem.Str.ofString "PolynomialNTT"]) (Xt := fun s => xlAt vw [] s && recOk (RowW.records (OpenRow.toRowW PySem.Challenge.rw_yi0043_01.row)) s) (XP := XL vw []) (Yf := Hook.obs $H) (Ya := Hook.val $H) (YP := Hook.says $H) (N := 6368) (left_of (by kernel_rfl) (by kernel_rfl) (fun s => by kernel_rfl) (by
    rw [te10156331382660048174, te11892475500146522536, te14364793385576792824, te6613529449190102663, te4187177175401517315, te5923862056798008813]
    exact fun w os => by kernel_rfl)) (Hook.of $H) (Hook.keeps $H) (fun s e => xl_of s (Bool.and_eq_true_iff.mp e).1) XL.keeps (by rfl) (by rfl) (by rfl) (fun s e => recFacts_of (Bool.and_eq_true_iff.mp e).2) (by rfl) k0 (by decide +kernel) ⟨rfl, rfl, rfl, rfl, rfl, by decide +kernel⟩ ?hw ?hc)
set_option maxHeartbeats 8000000 in
open_top hd for PySem.Challenge.rw_yi0043_01
end

section
theorem powmod_gives (b e : Int) (t u v : Tok) (he : 0 ≤ e) :
    Gives (Builtin.«int.__pow__» ⟨[.int b t, .int e u, .int 3329 v], []⟩) (.int (Builtin.powMod (b % 3329).toNat e.natAbs 3329 : Nat)) :=
  .of_wp fun M A E s Q h => by
    have hc : ¬ e < 0 := by omega
    obtain ⟨hp, g, d, tk, os⟩ := s
    wp_walk
    exact ⟨_, rfl, h⟩
theorem powinv_gives (t u v : Tok) :
    Gives (Builtin.«int.__pow__» ⟨[.int 128 t, .int (-1) u, .int 3329 v], []⟩) (.int 3303) :=
  .of_wp fun M A E s Q h => by
    obtain ⟨hp, g, d, tk, os⟩ := s
    wp_walk

    exact ⟨_, rfl, h⟩
theorem entry_pow3 : entryFor table "pow" = some Builtin.«pow» := entryFor_of_tree (by kernel_rfl)
theorem kind_pow3 : builtinKind "pow" = none := by decide +kernel
theorem plain_pow3 : plainId "pow" = true := by decide +kernel
theorem args_pow3 (a b c : Value) : argsOk "pow" ⟨[a, b, c], []⟩ := by unfold argsOk; kernel_rfl
theorem args_intpow3 (a b c : Value) : argsOk "int.__pow__" ⟨[a, b, c], []⟩ := by unfold argsOk; kernel_rfl
set_option maxHeartbeats 4000000 in
theorem call_pow3 {prog : Program} {w : World} {A : Around} {E : Value → Shared → Prop} {s : Shared} {b e r : Int} {t u v : Tok} {Q : Value → Shared → Prop}
    (hg : Gives (Builtin.«int.__pow__» ⟨[.int b t, .int e u, .int 3329 v], []⟩) (.int r))
    (h : Q (.int r s.toks) { s with toks := s.toks + 1 }) : wpAny (model prog w) A (call (.builtin "pow") [.int b t, .int e u, .int 3329 v]) Q E s := by
  refine call_function_entry kind_pow3 plain_pow3 entry_pow3 (args_pow3 _ _ _) ?_
  obtain ⟨hp, g, d, tk, os⟩ := s
  have hT : (⟨hp, g, d, tk, os⟩ : Shared).TypeIs (.int b t) "int" := rfl
  have e9 : PySem.dunder "pow" = Str.ofString "__pow__" := by decide +kernel
  have f3 : typeLookup (.type "int") (Str.ofString "__pow__") = pure (some (.builtin "int.__pow__")) := by rw [← e9]; exact F.slot_int_pow.lookup
  have f4 := F.slot_int_pow.bind (.int b t)
  repeat (any_goals (first | assumption | ((with_reducible show wpAny _ _ (call (Value.builtin "int.__pow__") _ _) _ _ _); refine call_gives F.slot_int_pow hT F.entry_int_pow (args_intpow3 _ _ _) hg ?_; dsimp only [Made.post]) | wp_step))

  all_goals first | exact ⟨_, rfl, h⟩ | exact h | skip
end

section
theorem typeCall_int_2 (a b : Value) : checkTypeCall "int" ⟨[a, b], []⟩ = pure () := by kernel_rfl
theorem newCall_int_2 (a b : Value) : checkBuiltinCall "int.__new__" ⟨[.type "int", a, b], []⟩ = pure () := by kernel_rfl
theorem wp_text2 {M : Model} {A : Around} {E : Value → Shared → Prop} {s : Shared} {Q : Value → Shared → Prop} {v : Value} {text : List Nat} {n : Int}
    (hs : (text.takeWhile (· != 0)).length ≤ 640) (hr : (int_private% "readNumeral") 0 2 (text.takeWhile (· != 0)) = (int_private% "Numeral.value") n)
    (ha : ((text.takeWhile (· != 0)).length == text.length) = true) (h : Q (.int n s.toks) { s with toks := s.toks + 1 }) :
    wpAny M A ((int_private% "intFromText") v text 2) Q E s := by
  obtain ⟨hp, g, d, tk, os⟩ := s
  repeat (any_goals (first
    | assumption
    | (with_reducible refine wpAny_ite_true (decide_eq_true hs) ?_)
    | (with_reducible refine wpAny_ite_true (decide_eq_true ha) ?_)
    | wp_step))
  all_goals (try rw [hr])
  all_goals (try dsimp only)
  repeat (any_goals (first
    | assumption
    | (with_reducible refine wpAny_ite_true (decide_eq_true hs) ?_)
    | (with_reducible refine wpAny_ite_true (decide_eq_true ha) ?_)
    | wp_step))
set_option maxHeartbeats 4000000 in
theorem gives_text2 {x : PySem.Str} {u u2 : Tok} {n : Int} (h1 : x.cps.all (· < 128) = true) (hs : (x.cps.toList.takeWhile (· != 0)).length ≤ 640) (hr : (int_private% "readNumeral") 0 2 (x.cps.toList.takeWhile (· != 0)) = (int_private% "Numeral.value") n)
    (ha : ((x.cps.toList.takeWhile (· != 0)).length == x.cps.toList.length) = true) : Gives (Builtin.«int.__new__» ⟨[.type "int", .str x u, .int 2 u2], []⟩) (.int n) :=
  .of_wp fun M A E s Q h => by
    obtain ⟨hp, g, d, tk, os⟩ := s
    have f1 := F.conv_sub_int
    have f2 := F.madeHere_int
    have f6 : typeOf (.str x u) = pure (.type "str") := rfl
    have hk := KIN.Hid.mk (And.intro hs (And.intro hr ha))
    clear hs hr ha
    repeat (any_goals (first
      | assumption
      | ((with_reducible show wpAny _ _ ((int_private% "intFromText") _ _ _) _ _ _); (try rw [if_pos h1]); refine wp_text2 hk.out.1 hk.out.2.1 hk.out.2.2 ?_)
      | wp_step))
    all_goals first | exact ⟨_, rfl, h⟩ | skip
theorem call_int_2 {prog : Program} {w : World} {A : Around} {E : Value → Shared → Prop} {s : Shared} {x y : Value} {S : PySem.Spec} {Q : Value → Shared → Prop} (g : Meets (Builtin.«int.__new__» ⟨[.type "int", x, y], []⟩) S) (h : S A.in1 (wants (fun obj s₁ => s₁.TypeIs obj "int" ∧ Q obj s₁) E) s) :
    wpAny (model prog w) A (call (.type "int") [x, y]) Q E s :=
  callType_new F.called_int F.newNe_int (typeCall_int_2 x y) (newCall_int_2 x y) (fun obj => by unfold argsOk; rw [signature?_of (id := "object.__init__") (n := ['_', '_', 't', 'i', 'n', 'i', '_', '_']) (o := ['t', 'c', 'e', 'j', 'b', 'o']) (by kernel_rfl) F.owner_object]; kernel_rfl) F.entry_int_new g h
end

section
/-- seven turns: the bits of the place, the other way round -/
def turns : Nat → Int → Int → Int
  | 0, t, _ => t
  | n + 1, t, k => turns n (2 * t + k.fmod 2) (k.fdiv 2)
theorem turns_nn : ∀ (n : Nat) (t k : Int), 0 ≤ t → 0 ≤ turns n t k
  | 0, _, _, h => h
  | n + 1, t, k, h => turns_nn n _ _ (by have := Int.fmod_nonneg_of_pos k (by decide : (0:Int) < 2); omega)
def bitsText (n : Nat) : PySem.Str := ⟨([48, 98] ++ (Nat.toDigits 2 n).map Char.toNat).toArray⟩
theorem base_is (n : Nat) : baseText "0b" 2 (n : Int) = bitsText n := by
  rw [baseText_nonneg (Int.natCast_nonneg n)]
  apply PySem.Str.ext'
  apply Array.toList_inj.mp
  rw [PySem.Str.cps_append, PySem.Str.cps_append, Array.toList_append, Array.toList_append, signs_ofString, signs_ofString, signs_ofString]
  simp only [String.toList_ofList, Int.natAbs_natCast]
  rfl
def cutText (n : Nat) : PySem.Str := Txt.zfill (Txt.slice (bitsText n) (some 2) none) 7
def revText (n : Nat) : PySem.Str := Txt.sliceBy (cutText n) none none (-1, 0)
theorem cut_len : ∀ n : Nat, n < 128 → (cutText n).length = 7 := by decide +kernel
theorem rev_ascii : ∀ n : Nat, n < 128 → (revText n).cps.all (· < 128) = true := by decide +kernel
theorem rev_seen : ∀ n : Nat, n < 128 → ((revText n).cps.toList.takeWhile (· != 0)).length = 7 ∧ (revText n).cps.toList.length = 7 := by decide +kernel
theorem rev_all : (List.range 128).map (fun n => (int_private% "readNumeral") 0 2 ((revText n).cps.toList.takeWhile (· != 0))) = (List.range 128).map fun n : Nat => (int_private% "Numeral.value") (turns 7 0 (n : Int)) := by kernel_rfl
theorem rev_reads {n : Nat} (h : n < 128) : (int_private% "readNumeral") 0 2 ((revText n).cps.toList.takeWhile (· != 0)) = (int_private% "Numeral.value") (turns 7 0 (n : Int)) :=
  List.map_inj_left.mp rev_all n (List.mem_range.mpr h)
end

section
/-- what stands in the one heap off the named places stands in the other -/
def Keeps (h h' : Heap) (as : List Addr) : Prop := ∀ b o, h.get? b = some o → b ∉ as → h'.get? b = some o
theorem Keeps.trans {h g h' : Heap} {as : List Addr} (k : Keeps h g as) (e : ∀ b o, g.get? b = some o → h'.get? b = some o) : Keeps h h' as := fun b o hb hn => e b o (k b o hb hn)
/-- a ledger that was only read, with what is new ahead of it -/
theorem Keeps.news {h h' h₀ : Heap} {L : Addr} {news part new : List (Addr × Obj)} (N : News h₀ L h news) (sub : ∀ p ∈ part, p ∈ news) (k : Keeps h h' (part.map (·.1))) (N' : News h₀ L h' (new ++ part)) : News h₀ L h' (new ++ news) := by
  intro p hp
  rcases List.mem_append.mp hp with hp | hp
  · exact N' p (List.mem_append_left _ hp)
  · by_cases hq : p.1 ∈ part.map (·.1)
    · obtain ⟨q, hq, e⟩ := List.mem_map.mp hq
      have a := (N q (sub q hq)).1
      have b := (N p hp).1
      rw [e, b] at a
      have e2 : q = p := Prod.ext e (Option.some.inj a).symm
      exact e2 ▸ N' q (List.mem_append_right _ hq)
    · exact ⟨k _ _ (N p hp).1 hq, (N p hp).2⟩
section
variable {prog : Program} {w : World} {A A₀ : Around} {s : Shared} {K : Frag} {L : Addr} {h₀ base : Heap} {m mg mb : Str → Option Value} {news : List (Addr × Obj)} {p : Program} {loose : List Str} {mean : ExcName → Option Value}
theorem code_frame {env : Env} {outer : List Env} {R : Result → Shared → Prop} {name qual : Str} {params : Arguments} {body : List Stmt} {scope : Scope} {dV kV doc pm cdv ct oc : Value} {an od : Option Addr} {osl : Array (Option Value)} {f : Addr} {args : Args} {binds : List (Str × Value)}
    (B : Below A₀ base outer h₀) (F : Fr h₀ L s.heap m) (X₀ : K.In h₀) (N : News h₀ L s.heap news) (T : Top p loose mean mg mb h₀) (hA : A.frames = some (env :: outer)) (hf : env.frame = some L) (hke : env.scope.kind = .function)
    (ho : K.lookup f = some ⟨oc, od, .func (fnOf name qual params body scope dV kV doc pm an cdv ct), osl⟩) (hcd : codeIn K cdv qual = true) (hroom : A.depth < recursionLimit)
    (hbind : BindsTo s (fnOf name qual params body scope dV kV doc pm an cdv ct) args binds) (hloc : ∀ y ∈ binds, scope.names.lookup y.1 = some .local)
    (h : ∀ g L' h₁, Fr h₀ L g m → Fr g L' h₁ (fun y => binds.reverse.lookup y) → News g L' h₁ news → Below A base (env :: outer) g → K.In g → Top p loose mean mg mb g → Keeps s.heap g (news.map (·.1)) →
      wpAny (model prog w) (A.deeper (envOf qual scope L' f cdv)) (execs body (envOf qual scope L' f cdv))
        (fun fl s' => LeaveK h₀ L m g R (match fl with | .ret v => v | _ => .none) s')
        (fun e s' => wpAny (model prog w) (A.deeper (envOf qual scope L' f cdv)) (leaving (envOf qual scope L' f cdv) e) (fun _ s'' => R (.error e) s'') (fun e' s'' => R (.error e') s'') s')
        { s with heap := h₁, toks := s.toks + binds.length })
    (hco : scope.isCoroutine = false) (hgen : scope.isGenerator = false) (hk : scope.kind = .function)
    (hcell : ∀ x ∈ scope.names, x.2 ≠ .cell) : codeAny (model prog w) A (.call (.ref f) args) R s := by
  obtain ⟨FG, BG, st, lv⟩ := groundX (R := R) B F N hA hf hke
  have hlim := T.nolimit
  refine codeAny_call_def (fd := fnX name qual params body scope [] dV kV doc pm an cdv ct) (body := body) (binds := binds) hroom ((X₀.keeps F.keep) _ _ ho) rfl (hlim.keeps F.keep) (codeRec_of (X₀.keeps F.keep) hcd) rfl hbind hcell hloc (fun h₁ hns hk₁ => ?_) hco hgen hk
  exact wpAny_mono (h _ s.heap.objs.size h₁ FG ⟨hns, fun b o e => hk₁ b o (of_hideAll _ e), Nat.le_of_eq (hideAll_size _ _)⟩
    (fun p hp => ⟨hk₁ _ _ (N p hp).1, Nat.ne_of_lt (Heap.lt_size (N p hp).1), hideAll_none _ (List.mem_map_of_mem hp)⟩) BG (X₀.keeps st) (T.keeps st) (fun b o e hn => hideAll_get _ e hn)) (fun fl s' hl => lv _ _ hl) fun _ _ y => y
end
end

section
section
variable {prog : Program} {w : World} {A A₀ : Around} {s : Shared} {K : Frag} {L : Addr} {h₀ base : Heap} {m mg mb : Str → Option Value} {news : List (Addr × Obj)} {p : Program} {loose : List Str} {mean : ExcName → Option Value}
/-- the same for a def with captured names -/
theorem code_frameC {env : Env} {outer : List Env} {R : Result → Shared → Prop} {name qual : Str} {params : Arguments} {body : List Stmt} {scope : Scope} {dV kV doc pm cdv ct oc : Value} {an od : Option Addr} {osl : Array (Option Value)} {f : Addr} {args : Args} {binds : List (Str × Value)}
    (B : Below A₀ base outer h₀) (F : Fr h₀ L s.heap m) (X₀ : K.In h₀) (N : News h₀ L s.heap news) (T : Top p loose mean mg mb h₀) (hA : A.frames = some (env :: outer)) (hf : env.frame = some L) (hke : env.scope.kind = .function)
    (ho : K.lookup f = some ⟨oc, od, .func (fnOf name qual params body scope dV kV doc pm an cdv ct), osl⟩) (hcd : codeIn K cdv qual = true) (hroom : A.depth < recursionLimit)
    (hbind : BindsTo s (fnOf name qual params body scope dV kV doc pm an cdv ct) args binds) (hkind : (binds.all fun y => scope.names.lookup y.1 == some .local || scope.names.lookup y.1 == some .cell) = true)
    (hnd : ((cellsFrom 0 scope.names []).map (·.1)).Nodup)
    (h : ∀ g L' h₁ tk cells, Fr h₀ L g m → Fr g L' h₁ (bindL (envOfC qual scope L' f cdv).kindOf binds fun _ => none) → News g L' h₁ (cells ++ news) →
      CellsAre (bindC (envOfC qual scope L' f cdv).kindOf binds fun _ => none) (cellsFrom (L' + 1) scope.names []) cells → Below A base (env :: outer) g → K.In g → Top p loose mean mg mb g → (∀ p ∈ news, p.1 < L') → Keeps s.heap g (news.map (·.1)) →
      wpAny (model prog w) (A.deeper (envOfC qual scope L' f cdv)) (execs body (envOfC qual scope L' f cdv))
        (fun fl s' => LeaveK h₀ L m g R (match fl with | .ret v => v | _ => .none) s')
        (fun e s' => wpAny (model prog w) (A.deeper (envOfC qual scope L' f cdv)) (leaving (envOfC qual scope L' f cdv) e) (fun _ s'' => R (.error e) s'') (fun e' s'' => R (.error e') s'') s')
        { s with heap := h₁, toks := tk })
    (hco : scope.isCoroutine = false) (hgen : scope.isGenerator = false) (hk : scope.kind = .function) : codeAny (model prog w) A (.call (.ref f) args) R s := by
  have hlim := T.nolimit
  obtain ⟨FG, BG, st, lv⟩ := groundX (R := R) B F N hA hf hke
  refine codeAny_call_function (fd := fnOf name qual params body scope dV kV doc pm an cdv ct) hroom ((X₀.keeps F.keep) _ _ ho) rfl hco hgen rfl (codeRec_of (X₀.keeps F.keep) hcd) (hbind _ _ _ _ ?_)
  refine wpAny_newFunctionEnv_cells hk (kindsX hkind _) fun env' he s' x => ?_
  subst he
  refine ⟨(hlim.keeps F.keep).keeps x.toInCall.keep, codeAny_func ?_⟩
  obtain ⟨h₁, tk, rfl, _⟩ := x.done
  obtain ⟨cells, NC, Y⟩ := Cl.news (h₀ := s.heap) (Nat.le_refl _) fun n c hm => ⟨x.cell n c (lookup_of_mem_nodup (cellsFrom_names scope.names 0 (s.heap.objs.size + 1) [] [] rfl ▸ hnd) hm), x.above n c hm⟩
  have all : News (hideAll s.heap (news.map (·.1))) s.heap.objs.size h₁ (cells ++ news) := fun p hp => by
    rcases List.mem_append.mp hp with hc | hn
    · refine ⟨(NC p hc).1, (NC p hc).2.1, Option.eq_none_iff_forall_ne_some.mpr fun o q => ?_⟩
      exact absurd ((NC p hc).2.2.symm.trans (of_hideAll _ q)) (by simp)
    · exact ⟨x.toInCall.keep _ _ (N p hn).1, Nat.ne_of_lt (Heap.lt_size (N p hn).1), hideAll_none _ (List.mem_map_of_mem hn)⟩
  refine wpAny_mono (h _ s.heap.objs.size h₁ tk cells FG ⟨x.toInCall.ns, fun b o e => x.toInCall.keep b o (of_hideAll _ e), Nat.le_of_eq (hideAll_size _ _)⟩ all Y BG (X₀.keeps st) (T.keeps st) (fun p hp => Heap.lt_size (N p hp).1)
    fun b o e hn => hideAll_get _ e hn) (fun fl s' hl => lv _ _ hl) fun _ _ y => y
end
/-- what is new in the callee's ledger was not there at the call -/
theorem fresh_of {g h h' : Heap} {L : Addr} {as : List Addr} {led : List (Addr × Obj)} (k : Keeps h g as) (N : News g L h' led) {l : Addr} {o : Obj} (hm : (l, o) ∈ led) (hn : l ∉ as) : h.get? l = none := by
  cases q : h.get? l with
  | none => rfl
  | some o' =>
    have a := k l o' q hn
    rw [(N _ hm).2.2] at a
    cases a
end

section
local macro_rules | `(tactic| tb_start) => `(tactic| (refine' code_frame ?k1 ?k2 ?k3 ?k4 ?k5 ?kA ?kF ?kK ?k6 ?k7 ?k8 ?k9 ?kB ?_ ?c2 ?c3 ?c4 ?c5; (case kA => exact rfl); (case kF => exact rfl); (case kK => assumption); (case k1 => k_asm); (case k2 => k_asm); (case k3 => k_asm); (case k4 => k_asm); (case k5 => k_asm); (case k6 => k_is); (case k7 => k_is); (case k8 => ktr_room); (case k9 => first | exact BindsTo.of_eq rfl | exact binds_K (by k_in) rfl (by k_is) rfl rfl rfl); (case c5 => decide); (case kB => exact locs rfl); (case c2 => exact rfl); (case c3 => exact rfl); (case c4 => exact rfl); k_whole; intro g' L' h' FG' F' N' B' X' T' KG'; (try dsimp only); (try k_lift B'); (try k_fold)))
local macro_rules | `(tactic| k_room) => `(tactic| ktr_room)
theorem and7 : ∀ n : Nat, n < 128 → Builtin.bitAnd (n : Int) (2 ^ Int.toNat 7 - 1) = n := by decide +kernel
theorem and7i {k : Int} (h0 : 0 ≤ k) (h1 : k < 128) : Builtin.bitAnd k (2 ^ Int.toNat 7 - 1) = k := by
  obtain ⟨n, rfl⟩ := Int.eq_ofNat_of_zero_le h0
  exact and7 n (by omega)
theorem bin7 {prog : Program} {w : World} {A : Around} {E : Value → Shared → Prop} {s : Shared} {k : Int} {t : Tok} {Q : Value → Shared → Prop} (h0 : 0 ≤ k) (h1 : k < 128)
    (h : Q (.str (baseText "0b" 2 k) s.toks) { s with toks := s.toks + 1 }) : wpAny (model prog w) A (call (.builtin "bin") [.int (Builtin.bitAnd k (2 ^ Int.toNat 7 - 1)) t]) Q E s := by
  rw [and7i h0 h1]
  exact P.bin_of_int h
theorem br_fits {k : Int} (h0 : 0 ≤ k) (h1 : k < 128) : (Txt.zfill (Txt.slice (baseText "0b" 2 k) (some 2) none) 7).length ≤ sizeLine := by
  obtain ⟨n, rfl⟩ := Int.eq_ofNat_of_zero_le h0
  rw [base_is]
  show (cutText n).length ≤ _
  rw [cut_len n (by omega), sizeLine_eq]; decide
theorem br_gives {k : Int} {u u2 uk : Tok} (h0 : 0 ≤ k) (h1 : k < 128) :
    Gives (Builtin.«int.__new__» ⟨[.type "int", .str (Txt.sliceBy (Txt.zfill (Txt.slice (baseText "0b" 2 k) (some 2) none) 7) none none (-1, uk)) u, .int 2 u2], []⟩) (.int (turns 7 0 k)) := by
  obtain ⟨n, rfl⟩ := Int.eq_ofNat_of_zero_le h0
  have hn : n < 128 := by omega
  rw [base_is]
  have a := rev_seen n hn
  refine gives_text2 (x := Txt.sliceBy (cutText n) none none (-1, uk)) (rev_ascii n hn) ?_ (rev_reads hn) ?_
  · exact Nat.le_trans (Nat.le_of_eq a.1) (by decide)
  · exact (Nat.beq_eq_true_eq _ _).mpr (a.1.trans a.2.symm)
theorem br_int {prog : Program} {w : World} {A : Around} {E : Value → Shared → Prop} {s : Shared} {k : Int} {u u2 uk : Tok} {Q : Value → Shared → Prop} (h0 : 0 ≤ k) (h1 : k < 128)
    (h : Q (.int (turns 7 0 k) s.toks) { s with toks := s.toks + 1 }) :
    wpAny (model prog w) A (call (.type "int") [.str (Txt.sliceBy (Txt.zfill (Txt.slice (baseText "0b" 2 k) (some 2) none) 7) none none (-1, uk)) u, .int 2 u2]) Q E s :=
  call_int_2 (br_gives h0 h1).meets (show (Made.int _).post _ s from ⟨rfl, h⟩)
local macro_rules | `(tactic| walk_at "call builtin:bin") => `(tactic| (refine bin7 (by assumption) (by assumption) ?_))
local macro_rules | `(tactic| walk_at "subscriptTail Name Slice str ref") => `(tactic| ((with_reducible show wpAny _ _ (subscriptTail _ (Expr.Slice none none (some _) _) (Value.str (Txt.zfill _ _) _) _) _ _ _); (with_reducible rename Fr _ _ _ _ => F'); (with_reducible rename News _ _ _ _ => N'); (refine slice_strK_nn (hsz := ?hsz) (s := ⟨_, _, _, _, _⟩) F' N' (by decide) ?_); (case hsz => exact br_fits (by assumption) (by assumption)); intro _ _ _ _ _))
local macro_rules | `(tactic| walk_at "call type:int") => `(tactic| ((with_reducible show wpAny _ _ (call (Value.type "int") [Value.str _ _, _]) _ _ _); refine br_int (by assumption) (by assumption) ?_))

set_option maxHeartbeats 8000000 in
theorem br_c {w : World} {p : Program} {loose : List Str} {mean : ExcName → Option Value} {mg mb : Str → Option Value} {dp un : Nat} {gd : Option (List Code)} {cn : Str} {cs : Scope} {a : Addr} {ccd : Value} {cl : List (Str × Addr)} {outer : List Env} {A₀ : Around} {base h₀ : Heap} {L : Addr} {m : Str → Option Value} {s : Shared}
    {Q E : Value → Shared → Prop} {k : Int} {tk tk2 : Tok}
    (B : Below A₀ base outer h₀) (F : Fr h₀ L s.heap m) (X : (Mine.hd.heap_1 w.params).In h₀) (N : News h₀ L s.heap []) (T : Top p loose mean mg mb h₀) (hk : cs.kind = .function)
    (hd : dp + 1 < recursionLimit) (h0 : 0 ≤ k) (h1 : k < 128)
    (hret : ∀ t h' tks, Fr h₀ L h' m → Keeps s.heap h' [] → Q (.int (turns 7 0 k) t) { s with heap := h', toks := tks }) :
    wpAny (model PySem.Challenge.rw_yi0043_01.prog w) (ktrTop dp un gd cn cs L a ccd cl outer) (call (.ref 245) [.int k tk, .int 7 tk2]) Q E s := by
  w_on
  w_strict (
    revert X
    k_fill
    intro X
    refine wpAny_call ?_
    k_dflt tb_start
    k_steps
    with_reducible rename Keeps _ _ _ => kg
    exact hret _ _ _ (by k_asm) (Keeps.trans kg (Fr.keep (by k_asm))))
/-- with any ledger -/
theorem br_n {w : World} {p : Program} {loose : List Str} {mean : ExcName → Option Value} {mg mb : Str → Option Value} {dp un : Nat} {gd : Option (List Code)} {cn : Str} {cs : Scope} {a : Addr} {ccd : Value} {cl : List (Str × Addr)} {outer : List Env} {A₀ : Around} {base h₀ : Heap} {L : Addr} {m : Str → Option Value} {s : Shared}
    {Q E : Value → Shared → Prop} {k : Int} {tk tk2 : Tok} {news : List (Addr × Obj)}
    (B : Below A₀ base outer h₀) (F : Fr h₀ L s.heap m) (X : (Mine.hd.heap_1 w.params).In h₀) (N : News h₀ L s.heap news) (T : Top p loose mean mg mb h₀) (hk : cs.kind = .function)
    (hd : dp + 1 < recursionLimit) (h0 : 0 ≤ k) (h1 : k < 128)
    (hret : ∀ t h' tks, Fr h₀ L h' m → News h₀ L h' news → Q (.int (turns 7 0 k) t) { s with heap := h', toks := tks }) :
    wpAny (model PySem.Challenge.rw_yi0043_01.prog w) (ktrTop dp un gd cn cs L a ccd cl outer) (call (.ref 245) [.int k tk, .int 7 tk2]) Q E s :=
  br_c B F X News.nil T hk hd h0 h1 fun t h' tks F' kp => hret t h' tks F' (Keeps.news (part := []) (new := []) N (fun _ h => nomatch h) kp News.nil)
end

section
set_option maxHeartbeats 8000000 in
theorem state_c {w : World} {p : Program} {loose : List Str} {mean : ExcName → Option Value} {mg mb : Str → Option Value} {dp un : Nat} {gd : Option (List Code)} {cn : Str} {cs : Scope} {a : Addr} {ccd : Value} {cl : List (Str × Addr)} {outer : List Env} {A₀ : Around} {base h₀ : Heap} {L : Addr} {m : Str → Option Value} {s : Shared}
    {Q E : Value → Shared → Prop} {l : Addr} {vs : List Value} {ns : List Int}
    (B : Below A₀ base outer h₀) (F : Fr h₀ L s.heap m) (X : (Mine.hd.heap_1 w.params).In h₀) (N : News h₀ L s.heap []) (T : Top p loose mean mg mb h₀) (hk : cs.kind = .function)
    (hd : dp + 1 < recursionLimit) (hl : base.IsList l vs.toArray) (hi : IntsAre vs ns) (hlen : ns.length ≤ 63)
    (hret : ∀ st c n1 n2 tk vs' ns' h' tks, IntsAre vs' ns' → 0 < ns'.length → ns'.length < 100 → (∀ x ∈ ns', 0 ≤ x) → @Ne Nat st c → Fr h₀ L h' m →
      News h₀ L h' [(st, W.listOf #[.int 0 tk, .ref c] n1), (c, W.listOf vs'.toArray n2)] → Q (.ref st) { s with heap := h', toks := tks }) :
    wpAny (model PySem.Challenge.rw_yi0043_01.prog w) (ktrTop dp un gd cn cs L a ccd cl outer) (call (.ref 433) [.ref l]) Q E s := by
  w_on
  w_strict (
    revert X
    k_fill
    intro X
    have hnl := hi.length
    refine wpAny_call ?_
    k_dflt cell_enter
    k_steps
    · refine' hret _ _ _ _ _ _ _ _ _ ?hi ?l0 ?l1 ?hp ?ne ?F ?N
      case F => k_asm
      case N => (refine' cb_drop ?cbN ?cbS; (case cbN => assumption); (case cbS => kcj_all))
      case ne => refine neN ?_; omega
      case hi => exact .cons _ _ .nil
      case l0 => decide
      case l1 => decide
      case hp => intro x hx; simp only [List.mem_singleton] at hx; omega
    · refine' hret _ _ _ _ _ _ _ _ _ ?hi' ?l0' ?l1' ?hp' ?ne' ?F' ?N'
      case F' => k_asm
      case N' => (refine' cb_drop ?cbN' ?cbS'; (case cbN' => assumption); (case cbS' => kcj_all))
      case ne' => refine neN ?_; omega
      case hi' => assumption
      case l0' => simp only [List.length_map] at *; omega
      case l1' => simp only [List.length_map] at *; omega
      case hp' => intro x hx; obtain ⟨y, _, e⟩ := List.mem_map.mp hx; split at e <;> omega)
end

section
local macro_rules | `(tactic| walk_at "getMethod ref") => `(tactic| (k_here; k_dflt (refine' kmu_sm ?k1 ?k2 ?k4 ?k5 ?k6 ?k7 ?k8 ?k9 ?k10 ?k11 ?k12 ?k13 ?k14 ?_; (case k1 => k_asm); (case k2 => k_asm); (case k4 => k_inst); (case k5 => k_is); (case k6 => k_is); (case k7 => k_is); (case k8 => k_is); (case k9 => k_is); (case k10 => k_is); (case k11 => decide +kernel); (case k12 => k_get); (case k13 => k_is); (case k14 => k_handed); k_whole)))
local macro_rules | `(tactic| k_room) => `(tactic| ktr_room)
local macro_rules | `(tactic| walk_at "call ref") => `(tactic| (k_here; (with_reducible show wpAny _ _ (call (Value.ref 245) _) _ _ _); k_dflt (refine' br_n ?B ?F ?X ?N ?T ?hk ?hd ?h0 ?h1 ?_; (case B => k_asm); (case F => k_asm); (case X => k_asm); (case N => k_asm); (case T => k_asm); (case hk => first | exact rfl | assumption); (case hd => ktr_room); (case h0 => first | assumption | omega); (case h1 => omega); k_whole; intro t9 h9 tk9 F9 N9; (try dsimp only); (try k_fold))))
local macro_rules | `(tactic| walk_at "call builtin:pow") => `(tactic| ((with_reducible show wpAny _ _ (call (Value.builtin "pow") [Value.int 17 _, _, _]) _ _ _); refine call_pow3 (powmod_gives _ _ _ _ _ (turns_nn _ _ _ (by decide))) ?_))
local macro_rules | `(tactic| walk_at "call builtin:pow") => `(tactic| ((with_reducible show wpAny _ _ (call (Value.builtin "pow") [Value.int 128 _, _, _]) _ _ _); refine call_pow3 (powinv_gives _ _ _) ?_))
def zetaF (k : Int) : Int := (Builtin.powMod ((17 : Int) % 3329).toNat (turns 7 0 k).natAbs 3329 : Nat)
set_option maxHeartbeats 8000000 in
theorem ring_c {w : World} {p : Program} {loose : List Str} {mean : ExcName → Option Value} {mg mb : Str → Option Value} {dp un : Nat} {gd : Option (List Code)} {cn : Str} {cs : Scope} {a : Addr} {ccd : Value} {cl : List (Str × Addr)} {outer : List Env} {A₀ : Around} {base h₀ : Heap} {L : Addr} {m : Str → Option Value} {s : Shared}
    {Q E : Value → Shared → Prop} {d1 d2 : Addr} {o1 o2 : Obj}
    (B : Below A₀ base outer h₀) (F : Fr h₀ L s.heap m) (X : (Mine.hd.heap_1 w.params).In h₀) (N : News h₀ L s.heap [(d1, o1), (d2, o2)]) (T : Top p loose mean mg mb h₀) (hk : cs.kind = .function)
    (hd : dp + 5 < recursionLimit)
    (hret : ∀ (r dr z : Nat) vs nz t1 t2 t3 t4 t5 t6 t7 h' tks, IntsAre vs ((rangeKs 0 128).map zetaF) → Fr h₀ L h' m →
      News h₀ L h' [(r, instObj 282 dr), (dr, dictOf [⟨PyData.keyHash w.params (PySem.Str.ofString "q"), .str (PySem.Str.ofString "q") t1, .int 3329 t2⟩, ⟨PyData.keyHash w.params (PySem.Str.ofString "n"), .str (PySem.Str.ofString "n") t3, .int 256 t4⟩,
        ⟨PyData.keyHash w.params (PySem.Str.ofString "ntt_zetas"), .str (PySem.Str.ofString "ntt_zetas") t5, .ref z⟩, ⟨PyData.keyHash w.params (PySem.Str.ofString "ntt_f"), .str (PySem.Str.ofString "ntt_f") t6, .int 3303 t7⟩] 4), (z, W.listOf vs.toArray nz), (d1, o1), (d2, o2)] →
      (@LT.lt Nat _ d1 dr ∧ @LT.lt Nat _ d2 dr ∧ @LT.lt Nat _ dr r ∧ @Ne Nat z dr ∧ @Ne Nat z r ∧ @Ne Nat z d1 ∧ @Ne Nat z d2) → Q (.ref r) { s with heap := h', toks := tks }) :
    wpAny (model PySem.Challenge.rw_yi0043_01.prog w) (ktrTop dp un gd cn cs L a ccd cl outer) (call (.ref 282) []) Q E s := by
  w_on
  w_strict (
    revert X
    k_fill
    intro X
    k_dflt (
      refine' call_cls ?k1 ?k2 ?k3 ?k4 ?k5 ?k6 ?_
      (case k1 => k_asm); (case k2 => k_asm); (case k3 => k_asm); (case k4 => k_is); (case k5 => k_is); (case k6 => k_is); k_whole; intro x' d' h' F' N' l1 l2; (try k_lt l1); (try k_lt2 l2); (try k_sweep)
      (refine' code_defC ?j1 ?j2 ?j3 ?j4 ?j5 ?kA ?kF ?kK ?j6 ?j7 ?k8 ?k9 ?kB ?kD ?_ ?c2 ?c3 ?c4; (case kA => exact rfl); (case kF => exact rfl); (case kK => assumption); (case j1 => k_asm); (case j2 => k_asm); (case j3 => k_asm); (case j4 => k_asm); (case j5 => k_asm); (case j6 => k_is); (case j7 => k_is); (case k8 => ktr_room); (case k9 => exact BindsTo.of_eq rfl); (case kB => exact rfl); (case kD => decide +kernel); (case c2 => exact rfl); (case c3 => exact rfl); (case c4 => exact rfl); k_whole; intro g' L' h' tk' cells' FG' F' N' Y' B' X' T' l1; (try k_lt l1); k_cells Y'; (try simp only [List.cons_append, List.nil_append] at N'); (try dsimp only); (try k_lift B'); (try k_fold)))
    k_steps
    refine' hret _ _ _ _ _ _ _ _ _ _ _ _ _ _ ?hi ?F ?N ?ne
    case F => k_asm
    case N => (refine' cb_drop ?cbN ?cbS; (case cbN => assumption); (case cbS => kcj_all))
    case hi => assumption
    case ne => (refine ⟨?_, ?_, ?_, ?_, ?_, ?_, ?_⟩ <;> omega))
end

section
local macro_rules | `(tactic| k_all) => `(tactic| assumption)
/-- the ledger, seen as two entries and the rest -/
theorem upd_two {st c : Addr} {o1 o2 : Obj} {news : List (Addr × Obj)} {g1 : Obj → List (Addr × Obj)} {g2 : Obj → Obj → List (Addr × Obj)}
    (U1 : UpdF st o1 news g1) (U2 : ∀ o, UpdF c o2 (g1 o) (g2 o)) (hne : @Ne Nat st c) :
    ∃ rest : List (Addr × Obj), (∀ p ∈ rest, p.1 ≠ st) ∧ (∀ p ∈ rest, p.1 ≠ c) ∧ (∀ p ∈ (st, o1) :: (c, o2) :: rest, p ∈ news) ∧
      ∀ a b, ∀ p ∈ g2 a b, p ∈ (st, a) :: (c, b) :: rest := by
  obtain ⟨pre, post, e, hg, h1, h2⟩ := U1.split
  refine ⟨news.filter fun p => decide (p.1 ≠ st ∧ p.1 ≠ c), ?_, ?_, ?_, ?_⟩
  · intro p hp
    exact (of_decide_eq_true (List.mem_filter.mp hp).2).1
  · intro p hp
    exact (of_decide_eq_true (List.mem_filter.mp hp).2).2
  · obtain ⟨pre2, post2, e2, _, _, _⟩ := (U2 o1).split
    intro p hp
    rcases List.mem_cons.mp hp with rfl | hp
    · rw [e]; simp
    · rcases List.mem_cons.mp hp with rfl | hp
      · have : (c, o2) ∈ g1 o1 := by rw [e2]; simp
        rw [hg, ← e] at this
        exact this
      · exact (List.mem_filter.mp hp).1
  · intro a b p hp
    obtain ⟨pre2, post2, e2, hg2, h3, h4⟩ := (U2 a).split
    rw [hg2] at hp
    have key : ∀ q ∈ g1 a, q.1 ≠ c → q ∈ (st, a) :: (c, b) :: news.filter fun p => decide (p.1 ≠ st ∧ p.1 ≠ c) := by
      intro q hq hqc
      rw [hg] at hq
      rcases List.mem_append.mp hq with hq | hq
      · refine .tail _ (.tail _ (List.mem_filter.mpr ⟨?_, decide_eq_true ⟨h1 q hq, hqc⟩⟩))
        rw [e]; exact List.mem_append_left _ hq
      · rcases List.mem_cons.mp hq with rfl | hq
        · exact .head _
        · refine .tail _ (.tail _ (List.mem_filter.mpr ⟨?_, decide_eq_true ⟨h2 q hq, hqc⟩⟩))
          rw [e]; exact List.mem_append_right _ (.tail _ hq)
    rcases List.mem_append.mp hp with hp | hp
    · exact key p (by rw [e2]; exact List.mem_append_left _ hp) (h3 p hp)
    · rcases List.mem_cons.mp hp with rfl | hp
      · exact .tail _ (.head _)
      · exact key p (by rw [e2]; exact List.mem_append_right _ (.tail _ hp)) (h4 p hp)

theorem getD_mem {ns : List Int} {i : Nat} (h : i < ns.length) : ns.getD i 0 ∈ ns := by
  rw [List.getD_eq_getElem?_getD, List.getElem?_eq_getElem h]
  exact List.getElem_mem h
theorem set_pos {ns : List Int} {i : Nat} {x : Int} (h : ∀ y ∈ ns, 0 ≤ y) (hx : 0 ≤ x) : ∀ y ∈ ns.set i x, 0 ≤ y := by
  intro y hy
  rcases List.mem_or_eq_of_mem_set hy with hy | rfl
  · exact h y hy
  · exact hx

set_option maxHeartbeats 8000000 in
theorem take_r {w : World} {p : Program} {loose : List Str} {mean : ExcName → Option Value} {mg mb : Str → Option Value} (dp un : Nat) (gd : Option (List Code)) (cn : Str) (cs : Scope) (a : Addr) (ccd : Value) (cl : List (Str × Addr)) (outer : List Env) (A₀ : Around) (base h₀ : Heap) (L : Addr) (m : Str → Option Value) (s : Shared)
    (Q E : Value → Shared → Prop) (st c : Addr) (k : Int) (tk : Tok) (n1 n2 : Nat) (vs : List Value) (ns : List Int) (most : Int) (tm : Tok) (rest : List (Addr × Obj))
    (B : Below A₀ base outer h₀) (F : Fr h₀ L s.heap m) (X : (Mine.hd.heap_1 w.params).In h₀)
    (N : News h₀ L s.heap ((st, W.listOf #[.int k tk, .ref c] n1) :: (c, W.listOf vs.toArray n2) :: rest)) (T : Top p loose mean mg mb h₀) (hk : cs.kind = .function)
    (hr1 : ∀ p ∈ rest, p.1 ≠ st) (hr2 : ∀ p ∈ rest, p.1 ≠ c)
    (hd : dp + 1 < recursionLimit) (hne : @Ne Nat st c)
    (hi : IntsAre vs ns) (hlen : 0 < ns.length) (hlen2 : ns.length < 100) (hpos : ∀ x ∈ ns, 0 ≤ x) (hk0 : 0 ≤ k) (hk1 : k < 1000) (hm0 : 0 < most) (hm1 : most < 10000)
    (hret : ∀ v t k' tk' n1' n2' vs' ns' h' tks, 0 ≤ v → v < most → 0 ≤ k' → k' ≤ k + 1 → IntsAre vs' ns' → ns'.length = ns.length → (∀ x ∈ ns', 0 ≤ x) → Fr h₀ L h' m →
      News h₀ L h' ((st, W.listOf #[.int k' tk', .ref c] n1') :: (c, W.listOf vs'.toArray n2') :: rest) → Q (.int v t) { s with heap := h', toks := tks }) :
    wpAny (model PySem.Challenge.rw_yi0043_01.prog w) (ktrTop dp un gd cn cs L a ccd cl outer) (call (.ref 440) [.ref st, .int most tm]) Q E s := by
  w_on
  w_strict (
    revert X
    k_fill
    intro X
    have hnl := hi.length
    refine wpAny_call ?_
    k_dflt cell_enter
    k_steps
    · refine' hret _ _ _ _ _ _ _ _ _ _ ?v0 ?v1 ?k0 ?k1 ?hi ?hl ?hp ?F ?N
      case F => k_asm
      case N => k_asm
      case hi => assumption
      case hl => assumption
      case v0 => exact Int.fmod_nonneg_of_pos _ hm0
      case v1 => exact Int.fmod_lt_of_pos _ hm0
      case k0 => omega
      case k1 => omega
      case hp =>
        with_reducible rename 1000000000000000000 ≤ _ => hb
        exact set_pos hpos (Int.fdiv_nonneg (by omega) (by omega))
    · refine' hret _ _ _ _ _ _ _ _ _ _ ?v0' ?v1' ?k0' ?k1' ?hi' ?hl' ?hp' ?F' ?N'
      case F' => k_asm
      case N' => k_asm
      case hi' => assumption
      case hl' => rfl
      case v0' => exact Int.fmod_nonneg_of_pos _ hm0
      case v1' => exact Int.fmod_lt_of_pos _ hm0
      case k0' => omega
      case k1' => omega
      case hp' => assumption)
end

section
theorem take_c {w : World} {p : Program} {loose : List Str} {mean : ExcName → Option Value} {mg mb : Str → Option Value} {dp un : Nat} {gd : Option (List Code)} {cn : Str} {cs : Scope} {a : Addr} {ccd : Value} {cl : List (Str × Addr)} {outer : List Env} {A₀ : Around} {base h₀ : Heap} {L : Addr} {m : Str → Option Value} {s : Shared}
    {Q E : Value → Shared → Prop} {st c : Addr} {k : Int} {tk : Tok} {n1 n2 : Nat} {vs : List Value} {ns : List Int} {most : Int} {tm : Tok} {news : List (Addr × Obj)} {g1 : Obj → List (Addr × Obj)} {g2 : Obj → Obj → List (Addr × Obj)}
    (B : Below A₀ base outer h₀) (F : Fr h₀ L s.heap m) (X : (Mine.hd.heap_1 w.params).In h₀)
    (N : News h₀ L s.heap news) (T : Top p loose mean mg mb h₀) (hk : cs.kind = .function)
    (U1 : UpdF st (W.listOf #[.int k tk, .ref c] n1) news g1) (U2 : ∀ o, UpdF c (W.listOf vs.toArray n2) (g1 o) (g2 o))
    (hd : dp + 1 < recursionLimit) (hne : @Ne Nat st c)
    (hi : IntsAre vs ns) (hlen : 0 < ns.length) (hlen2 : ns.length < 100) (hpos : ∀ x ∈ ns, 0 ≤ x) (hk0 : 0 ≤ k) (hk1 : k < 1000) (hm0 : 0 < most) (hm1 : most < 10000)
    (hret : ∀ v t k' tk' n1' n2' vs' ns' h' tks, 0 ≤ v → v < most → 0 ≤ k' → k' ≤ k + 1 → IntsAre vs' ns' → ns'.length = ns.length → (∀ x ∈ ns', 0 ≤ x) → Fr h₀ L h' m →
      News h₀ L h' (g2 (W.listOf #[.int k' tk', .ref c] n1') (W.listOf vs'.toArray n2')) → Q (.int v t) { s with heap := h', toks := tks }) :
    wpAny (model PySem.Challenge.rw_yi0043_01.prog w) (ktrTop dp un gd cn cs L a ccd cl outer) (call (.ref 440) [.ref st, .int most tm]) Q E s := by
  obtain ⟨rest, r1, r2, hin, hout⟩ := upd_two U1 U2 hne
  exact take_r dp un gd cn cs a ccd cl outer A₀ base h₀ L m s Q E st c k tk n1 n2 vs ns most tm rest B F X (fun p hp => N p (hin p hp)) T hk r1 r2 hd hne hi hlen hlen2 hpos hk0 hk1 hm0 hm1
    fun v t k' tk' n1' n2' vs' ns' h' tks a1 a2 a3 a4 a5 a6 a7 F' N' => hret v t k' tk' n1' n2' vs' ns' h' tks a1 a2 a3 a4 a5 a6 a7 F' fun p hp => N' p (hout _ _ p hp)
end

section
local macro_rules | `(tactic| k_room) => `(tactic| ktr_room)
local macro_rules | `(tactic| walk_at "call ref") => `(tactic| (k_here; (with_reducible show wpAny _ _ (call (Value.ref 440) _) _ _ _); k_dflt (refine' take_c ?B ?F ?X ?N ?T ?hk ?U1 ?U2 ?hd ?hne ?hi ?hlen ?hlen2 ?hpos ?hk0 ?hk1 ?hm0 ?hm1 ?_; (case B => k_asm); (case F => k_asm); (case X => k_asm); (case N => k_asm); (case T => k_asm); (case hk => first | exact rfl | assumption); (case U1 => k_updF); (case U2 => intro o9; k_updF); (case hd => ktr_room); (case hne => assumption); (case hi => assumption); (case hlen => omega); (case hlen2 => omega); (case hpos => assumption); (case hk0 => omega); (case hk1 => omega); (case hm0 => decide); (case hm1 => decide); k_whole; intro v9 t9 k9 tk9 n91 n92 vs9 ns9 h9 tks9 a91 a92 a93 a94 a95 a96 a97 F9 N9; (try k_sweep); (try dsimp only); (try k_fold))))
set_option maxHeartbeats 8000000 in
theorem full_c {w : World} {p : Program} {loose : List Str} {mean : ExcName → Option Value} {mg mb : Str → Option Value} {dp un : Nat} {gd : Option (List Code)} {cn : Str} {cs : Scope} {a : Addr} {ccd : Value} {cl : List (Str × Addr)} {outer : List Env} {A₀ : Around} {base h₀ : Heap} {L : Addr} {m : Str → Option Value} {s : Shared}
    {Q E : Value → Shared → Prop} {st c : Addr} {k : Int} {tk : Tok} {n1 n2 : Nat} {vs : List Value} {ns : List Int}
    (B : Below A₀ base outer h₀) (F : Fr h₀ L s.heap m) (X : (Mine.hd.heap_1 w.params).In h₀) (N : News h₀ L s.heap [(st, W.listOf #[.int k tk, .ref c] n1), (c, W.listOf vs.toArray n2)]) (T : Top p loose mean mg mb h₀) (hk : cs.kind = .function)
    (hd : dp + 3 < recursionLimit) (hne : @Ne Nat st c)
    (hi : IntsAre vs ns) (hlen : 0 < ns.length) (hlen2 : ns.length < 100) (hpos : ∀ x ∈ ns, 0 ≤ x) (hk0 : 0 ≤ k) (hk1 : k < 500)
    (hret : ∀ (l : Nat) k' tk' n1' n2' vs' ns' ws xs nl h' tks, 0 ≤ k' → k' ≤ k + 3 → IntsAre vs' ns' → ns'.length = ns.length → (∀ x ∈ ns', 0 ≤ x) → IntsAre ws xs → xs.length = 256 → (∀ x ∈ xs, 0 ≤ x ∧ x < 3329) → Fr h₀ L h' m →
      News h₀ L h' [(l, W.listOf ws.toArray nl), (st, W.listOf #[.int k' tk', .ref c] n1'), (c, W.listOf vs'.toArray n2')] → s.heap.get? l = none → Keeps s.heap h' [st, c] → Q (.ref l) { s with heap := h', toks := tks }) :
    wpAny (model PySem.Challenge.rw_yi0043_01.prog w) (ktrTop dp un gd cn cs L a ccd cl outer) (call (.ref 452) [.ref st]) Q E s := by
  w_on
  w_strict (
    revert X
    k_fill
    intro X
    have hnl := hi.length
    refine wpAny_call ?_
    k_dflt (
      (refine' code_frameC ?j1 ?j2 ?j3 ?j4 ?j5 ?kA ?kF ?kK ?j6 ?j7 ?k8 ?k9 ?kB ?kD ?_ ?c2 ?c3 ?c4; (case kA => exact rfl); (case kF => exact rfl); (case kK => assumption); (case j1 => k_asm); (case j2 => k_asm); (case j3 => k_asm); (case j4 => k_asm); (case j5 => k_asm); (case j6 => k_is); (case j7 => k_is); (case k8 => ktr_room); (case k9 => exact BindsTo.of_eq rfl); (case kB => exact rfl); (case kD => decide +kernel); (case c2 => exact rfl); (case c3 => exact rfl); (case c4 => exact rfl); k_whole; intro g' L' h' tk' cells' FG' F' N' Y' B' X' T' l1 KG'; (try k_lt l1); k_cells Y'; (try simp only [List.cons_append, List.nil_append] at N'); (try dsimp only); (try k_lift B'); (try k_fold)))
    k_steps
    refine' hret _ _ _ _ _ _ _ _ _ _ _ _ ?k0 ?k1 ?hi ?hl ?hp ?hw ?hxl ?hxb ?F ?N ?fr ?kp
    case F => k_asm
    case N => (refine' cb_drop ?cbN ?cbS; (case cbN => assumption); (case cbS => kcj_all))
    case hi => assumption
    case hl => omega
    case hp => assumption
    case hw => assumption
    case k0 => omega
    case k1 => omega
    case hxl => simp only [List.length_map, rangeKs_length]; decide
    case hxb =>
      intro x hx
      obtain ⟨y, _, e⟩ := List.mem_map.mp hx
      subst e
      exact ⟨Int.fmod_nonneg_of_pos _ (by decide), Int.fmod_lt_of_pos _ (by decide)⟩
    case fr =>
      with_reducible rename News g' _ _ _ => nG
      refine fresh_of KG' nG (.head _) ?_
      simp only [List.map, List.mem_cons, List.not_mem_nil, or_false, not_or]
      refine ⟨neN ?_, neN ?_⟩ <;> omega
    case kp => exact Keeps.trans KG' (Fr.keep (by k_asm)))
end

section
local macro_rules | `(tactic| tb_start) => `(tactic| (refine' code_frame ?k1 ?k2 ?k3 ?k4 ?k5 ?kA ?kF ?kK ?k6 ?k7 ?k8 ?k9 ?kB ?_ ?c2 ?c3 ?c4 ?c5; (case kA => exact rfl); (case kF => exact rfl); (case kK => assumption); (case k1 => k_asm); (case k2 => k_asm); (case k3 => k_asm); (case k4 => k_asm); (case k5 => k_asm); (case k6 => k_is); (case k7 => k_is); (case k8 => ktr_room); (case k9 => first | exact BindsTo.of_eq rfl | exact binds_K (by k_in) rfl (by k_is) rfl rfl rfl); (case c5 => decide); (case kB => exact locs rfl); (case c2 => exact rfl); (case c3 => exact rfl); (case c4 => exact rfl); k_whole; intro g' L' h' FG' F' N' B' X' T' KG'; (try dsimp only); (try k_lift B'); (try k_fold)))
theorem root_nn (k : Int) : 0 ≤ 2 * turns 7 0 k + 1 := by have := turns_nn 7 0 k (by decide); omega
def rootF (k : Int) : Int := (Builtin.powMod ((17 : Int) % 3329).toNat (2 * turns 7 0 k + 1).natAbs 3329 : Nat)
local macro_rules | `(tactic| walk_at "call builtin:pow") => `(tactic| (refine call_pow3 (powmod_gives _ _ _ _ _ (root_nn _)) ?_))
set_option maxHeartbeats 8000000 in
theorem root_c {w : World} {p : Program} {loose : List Str} {mean : ExcName → Option Value} {mg mb : Str → Option Value} {dp un : Nat} {gd : Option (List Code)} {cn : Str} {cs : Scope} {a : Addr} {ccd : Value} {cl : List (Str × Addr)} {outer : List Env} {A₀ : Around} {base h₀ : Heap} {L : Addr} {m : Str → Option Value} {s : Shared}
    {Q E : Value → Shared → Prop} {k : Int} {tk : Tok}
    (B : Below A₀ base outer h₀) (F : Fr h₀ L s.heap m) (X : (Mine.hd.heap_1 w.params).In h₀) (N : News h₀ L s.heap []) (T : Top p loose mean mg mb h₀) (hk : cs.kind = .function)
    (hd : dp + 1 < recursionLimit) (h0 : 0 ≤ k) (h1 : k < 128)
    (hret : ∀ t h' tks, Fr h₀ L h' m → Keeps s.heap h' [] → Q (.int (rootF k) t) { s with heap := h', toks := tks }) :
    wpAny (model PySem.Challenge.rw_yi0043_01.prog w) (ktrTop dp un gd cn cs L a ccd cl outer) (call (.ref 447) [.int k tk]) Q E s := by
  w_on
  w_strict (
    revert X
    k_fill
    intro X
    refine wpAny_call ?_
    k_dflt tb_start
    k_steps
    with_reducible rename Keeps _ _ _ => kg
    exact hret _ _ _ (by k_asm) (Keeps.trans kg (Fr.keep (by k_asm))))
end

section
theorem getD_ok {ns : List Int} (h : ∀ y ∈ ns, 0 ≤ y ∧ y < 3329) (a : Int) (i : Nat) : IntMulOk a (ns.getD i 0) := by
  refine .of_right ?_
  have : 0 ≤ ns.getD i 0 ∧ ns.getD i 0 < 3329 := by
    by_cases hi : i < ns.length
    · exact h _ (getD_mem hi)
    · rw [List.getD_eq_getElem?_getD, List.getElem?_eq_none (by omega)]
      exact ⟨Int.le_refl 0, by decide⟩
  exact intBits_le_64 (by omega) (by omega)
/-- the four coefficients of one turn -/
def quad (zs fs gs : List Int) (i : Int) : List Int :=
  [(fs.getD (4 * i + 0).toNat 0 * gs.getD (4 * i + 0).toNat 0 + zs.getD (64 + i).toNat 0 * fs.getD (4 * i + 1).toNat 0 * gs.getD (4 * i + 1).toNat 0).fmod 3329,
   (fs.getD (4 * i + 1).toNat 0 * gs.getD (4 * i + 0).toNat 0 + fs.getD (4 * i + 0).toNat 0 * gs.getD (4 * i + 1).toNat 0).fmod 3329,
   (fs.getD (4 * i + 2).toNat 0 * gs.getD (4 * i + 2).toNat 0 + -zs.getD (64 + i).toNat 0 * fs.getD (4 * i + 3).toNat 0 * gs.getD (4 * i + 3).toNat 0).fmod 3329,
   (fs.getD (4 * i + 3).toNat 0 * gs.getD (4 * i + 2).toNat 0 + fs.getD (4 * i + 2).toNat 0 * gs.getD (4 * i + 3).toNat 0).fmod 3329]
def mulTo (zs fs gs : List Int) : Nat → List Int
  | 0 => []
  | n + 1 => mulTo zs fs gs n ++ quad zs fs gs (n : Int)
@[irreducible] def mulL (zs fs gs : List Int) : List Int := mulTo zs fs gs 64
theorem mulL_def (zs fs gs : List Int) : mulL zs fs gs = mulTo zs fs gs 64 := by unfold mulL; rfl
section
variable {prog : Program} {w : World} {A : Around} {E : Value → Shared → Prop} {s : Shared} {env : Env} {h₀ : Heap} {body : List Stmt} {Q : Flow → Shared → Prop}
theorem mul_loop {l : Addr} {rest : List (Addr × Obj)} {r : Addr} {t₀ u₀ v₀ : Tok} {m₀ : Str → Option Value} {x : PySem.Str} (stored : List PySem.Str) (P : Nat → List Int → Prop)
    (hh : A.handled = none) (hr : IsRange s.heap r 0 64 1 t₀ u₀ v₀) (F : Fr h₀ env.locals s.heap m₀) (N : News h₀ env.locals s.heap ((l, W.listOf #[] 0) :: rest)) (hm : m₀ (PySem.Str.ofString "new_coeffs") = some (.ref l)) (hp : P 0 [])
    (turn : ∀ (c : List Value × List Int × Nat) (pre : List Int) (k : Int) t (u : Str → Option Value) h tk own, k = 0 + (pre.length : Int) → pre.length < 64 → OwnOff own (l :: rest.map (·.1)) → IntsAre c.1 c.2.1 → P pre.length c.2.1 →
      Fr h₀ env.locals h (fun y => if y = x then some (.int k t) else kstB (fun z => if stored.contains z then u z else m₀ z) [(PySem.Str.ofString "new_coeffs", .ref l)] y) → News h₀ env.locals h (((l, W.listOf c.1.toArray c.2.2) :: rest) ++ own) →
      wpAny (model prog w) A (execs body env) (InvPostN h₀ env.locals (KstS (fun c : List Value × List Int × Nat => (l, W.listOf c.1.toArray c.2.2) :: rest) (fun _ => [(PySem.Str.ofString "new_coeffs", .ref l)]) (fun c => IntsAre c.1 c.2.1) x stored m₀ (fun pre c => P pre.length c.2.1) (pre ++ [k])) own (l :: rest.map (·.1)) { s with heap := h, toks := tk } Q) E { s with heap := h, toks := tk })
    (done : ∀ (c : List Value × List Int × Nat) (u : Str → Option Value) h tk, IntsAre c.1 c.2.1 → P 64 c.2.1 → Fr h₀ env.locals h (fun y => if y = x then u y else kstB (fun z => if stored.contains z then u z else m₀ z) [(PySem.Str.ofString "new_coeffs", .ref l)] y) → News h₀ env.locals h ((l, W.listOf c.1.toArray c.2.2) :: rest) → Q .next { s with heap := h, toks := tk }) :
    wpAny (model prog w) A (pyIter (.ref r)) (fun it s₂ => LoopAtV prog w A h₀ env x body Q E it s₂) E s :=
  kst_range (fun c : List Value × List Int × Nat => (l, W.listOf c.1.toArray c.2.2) :: rest) (fun _ => [(PySem.Str.ofString "new_coeffs", .ref l)]) (fun c => IntsAre c.1 c.2.1) stored (fun pre c => P pre.length c.2.1) ([], [], 0) (n := 64)
    hh hr (by decide) (by decide) F N .nil (by intro p hp; rcases List.mem_cons.mp hp with rfl | hp; exact hm; cases hp) hp turn (fun c u h tk hf hP => done c u h tk hf (by rw [rangeKs_length] at hP; exact hP))
end
end

section
section
variable {prog : Program} {w : World} {A : Around} {E : Value → Shared → Prop} {s : Shared}
theorem inplace_lists {M : Model} {a b : Value} {Q : Value → Shared → Prop} (ha : s.TypeIs a "list") (hb : s.TypeIs b "list")
    (hc : wpAny M A (call (.builtin "list.__iadd__") [a, b]) Q E s) : wpAny M A (inplaceOp .Add a b) Q E s := by
  have hI : typeLookup (.type "list") (dunderI "add") = pure (some (.builtin "list.__iadd__")) := PySem.F.slot_list_iadd.lookup
  have hq : isSeqSlot (some (.builtin "list.__iadd__")) = true := by decide +kernel
  have hfi : fillsInplaceSlot (.type "list") "add" (Operator.Add == .Add) = pure false := by
    unfold fillsInplaceSlot
    show (typeLookup (.type "list") (dunderI "add") >>= fun fi => pure (fi.isSome && !isSeqSlot fi)) = pure false
    rw [hI, pure_bind, hq]; rfl
  unfold inplaceOp
  refine wpAny_holding ?_
  refine wpAny_bind (wpAny_typeOf ha (wpAny_bind (wpAny_of_eq hfi ?_)))
  show wpAny M A (if false = true then _ else _) Q E s
  rw [if_neg Bool.false_ne_true]
  refine wpAny_bind (wpAny_binaryOp1_none (nm := "add") ha hb PySem.noFill_list_add ?_)
  refine wpAny_bind (wpAny_of_eq (PySem.seqSlot_of hI hq) ?_)
  exact wpAny_bind (wpAny_rule hc)
theorem iadd_K {h₀ : Heap} {L D b : Addr} {m : Str → Option Value} {news news' : List (Addr × Obj)} {vs us : List Value} {n n2 : Nat} {Q : Value → Shared → Prop} (F : Fr h₀ L s.heap m) (N : News h₀ L s.heap news) (hm : (D, W.listOf vs.toArray n) ∈ news) (hb : (b, W.listOf us.toArray n2) ∈ news)
    (hne : us ≠ []) (U : Upd D (W.listOf vs.toArray n) (W.listOf (vs ++ us).toArray (n + 1)) news news') (hz : vs.length + us.length ≤ 1000)
    (h : ∀ h', Fr h₀ L h' m → News h₀ L h' news' → Q (.ref D) { s with heap := h' }) : wpAny (model prog w) A (inplaceOp .Add (.ref D) (.ref b)) Q E s := by
  have hsz : (1000 : Nat) ≤ sizeLine := by rw [sizeLine_eq]; decide
  obtain ⟨pre, post, rfl, rfl, a, c⟩ := U.split
  have z := N (D, W.listOf vs.toArray n) (List.mem_append.mpr (.inr (.head _)))
  refine inplace_lists ⟨_, z.1, rfl⟩ ⟨_, (N _ hb).1, rfl⟩ ?_
  refine call_meets PySem.F.slot_list_iadd ⟨_, z.1, rfl⟩ PySem.F.entry_list_iadd (PySem.F.args_list_iadd_2 _ _) (PySem.AutoSeq1.list___iadd___list_list_0 D vs.toArray n b us.toArray n2 ?_ ?_ ?_) ⟨z.1, (N _ hb).1, h _ (F.change (Heap.SameBut.update ..) z.2.1 z.2.2) (ki_turn (fun x => x ++ us.toArray) N a c ?_ ?_)⟩
  · have : Builtin.List.listTooLong (vs.toArray.size + us.toArray.size) = false := by
      rw [List.size_toArray, List.size_toArray]
      unfold Builtin.List.listTooLong
      exact decide_eq_false (by omega)
    rw [this]; simp
  · rw [List.size_toArray]; omega
  · rw [List.size_toArray, List.size_toArray]; omega
  · simp
  · have : us.length ≠ 0 := fun e => hne (List.eq_nil_of_length_eq_zero e)
    simp [this]
end
end

section
local macro_rules | `(tactic| walk_at "getMethod ref") => `(tactic| (k_here; k_dflt (refine' kmu_sm ?k1 ?k2 ?k4 ?k5 ?k6 ?k7 ?k8 ?k9 ?k10 ?k11 ?k12 ?k13 ?k14 ?_; (case k1 => k_asm); (case k2 => k_asm); (case k4 => k_inst); (case k5 => k_is); (case k6 => k_is); (case k7 => k_is); (case k8 => k_is); (case k9 => k_is); (case k10 => k_is); (case k11 => decide +kernel); (case k12 => k_get); (case k13 => k_is); (case k14 => k_handed); k_whole)))
local macro_rules | `(tactic| k_room) => `(tactic| ktr_room)
local macro_rules | `(tactic| tb_start) => `(tactic| (refine' code_frame ?k1 ?k2 ?k3 ?k4 ?k5 ?kA ?kF ?kK ?k6 ?k7 ?k8 ?k9 ?kB ?_ ?c2 ?c3 ?c4 ?c5; (case kA => exact rfl); (case kF => exact rfl); (case kK => assumption); (case k1 => k_asm); (case k2 => k_asm); (case k3 => k_asm); (case k4 => k_asm); (case k5 => k_asm); (case k6 => k_is); (case k7 => k_is); (case k8 => ktr_room); (case k9 => first | exact BindsTo.of_eq rfl | exact binds_K (by k_in) rfl (by k_is) rfl rfl rfl); (case c5 => decide); (case kB => exact locs rfl); (case c2 => exact rfl); (case c3 => exact rfl); (case c4 => exact rfl); k_whole; intro g' L' h' FG' F' N' B' X' T' KG'; (try dsimp only); (try k_lift B'); (try k_fold)))
local macro_rules | `(tactic| mul_fits) => `(tactic| ((with_reducible show IntMulOk _ (List.getD _ _ _)); exact getD_ok (by assumption) _ _))
set_option hygiene false in
local macro_rules | `(tactic| walk_at "pyIter ref") => `(tactic| (k_here; k_dflt ((rename Fr _ _ _ _ => lF'); (rename News _ _ _ _ => lN'); (rename IsRange _ _ _ _ _ _ _ _ => rgX); (with_unfolding_all refine' mul_loop [PySem.Str.ofString "r0", PySem.Str.ofString "r1", PySem.Str.ofString "r2", PySem.Str.ofString "r3", PySem.Str.ofString "new_coeffs"] (fun i ns => ns = mulTo zs fs gs i) rfl rgX lF' lN' rfl rfl ?_ ?_); rintro ⟨vs9, ns9, nn9⟩ pre9 k9 t9 u9 h9 tk9 own9 kEq kLt kOff kFacts kInv kFr kNews; (dsimp only [kstB] at kFr); (dsimp only at kNews kFacts kInv); (simp only [List.nil_append, List.cons_append, List.append_nil] at kNews); (simp only [List.map_cons, List.map_nil] at kOff); (have kMark := kstMark); (clear lF' lN' rgX); (have kLen := IntsAre.length kFacts); (try k_fold); rotate_left; rintro ⟨vs9, ns9, nn9⟩ u9 h9 tk9 kFacts kInv kFr kNews; (dsimp only [kstB] at kFr); (dsimp only at kNews kFacts kInv); (have kMark := kstMark); (clear lF' lN' rgX); (have kLen := IntsAre.length kFacts); (try k_fold); rotate_right)))
theorem mulTo_len (zs fs gs : List Int) : ∀ n, (mulTo zs fs gs n).length = 4 * n
  | 0 => rfl
  | n + 1 => by rw [mulTo, List.length_append, mulTo_len zs fs gs n]; show 4 * n + 4 = _; omega
theorem room9 {zs fs gs : List Int} {vs : List Value} {ns pre : List Int} (h1 : vs.length = ns.length) (h2 : ns = mulTo zs fs gs pre.length) (h3 : pre.length < 64) : vs.length + 4 ≤ 1000 := by
  rw [h1, h2, mulTo_len]; omega
theorem mul_turn {zs fs gs ns pre : List Int} {k : Int} (h : ns = mulTo zs fs gs pre.length) (e : k = 0 + (pre.length : Int)) : ns ++ quad zs fs gs k = mulTo zs fs gs (pre ++ [k]).length := by
  rw [List.length_append]
  show _ = mulTo zs fs gs pre.length ++ quad zs fs gs (pre.length : Int)
  rw [h, e, Int.zero_add]
local macro_rules | `(tactic| walk_at "inplaceOp Add") => `(tactic| (k_here; (with_reducible show wpAny _ _ (inplaceOp _ (Value.ref _) (Value.ref _)) _ _ _); k_dflt (refine' iadd_K ?F ?N ?m ?b ?e ?U ?z ?_; (case F => k_asm); (case N => k_asm); (case m => k_mem); (case b => k_mem); (case e => exact List.cons_ne_nil _ _); (case U => k_upd); (case z => exact room9 (by assumption) (by assumption) (by assumption)); k_whole); intro h' F' N'; (try k_sweep)))
local macro_rules | `(tactic| k_intsEnd) => `(tactic| exact IntsAre.append (by assumption) (.cons _ _ (.cons _ _ (.cons _ _ (.cons _ _ .nil)))))
local macro_rules | `(tactic| kst_p) => `(tactic| ((try dsimp only); exact mul_turn (by assumption) (by assumption)))
set_option maxHeartbeats 8000000 in
theorem mul_c {w : World} {p : Program} {loose : List Str} {mean : ExcName → Option Value} {mg mb : Str → Option Value} {dp un : Nat} {gd : Option (List Code)} {cn : Str} {cs : Scope} {a : Addr} {ccd : Value} {cl : List (Str × Addr)} {outer : List Env} {A₀ : Around} {base h₀ : Heap} {L : Addr} {m : Str → Option Value} {s : Shared}
    {Q E : Value → Shared → Prop} {x dx r dr z lf lg : Nat} {news : List (Addr × Obj)} {fs gs zs : List Int} {fv gv zv : List Value} {nf ng nz : Nat} {t1 t2 t3 t4 t5 t6 t7 t8 t9 : Tok}
    (B : Below A₀ base outer h₀) (F : Fr h₀ L s.heap m) (X : (Mine.hd.heap_1 w.params).In h₀)
    (hnews : news = [(x, instObj 426 dx), (dx, dictOf [⟨PyData.keyHash w.params (PySem.Str.ofString "parent"), .str (PySem.Str.ofString "parent") t8, .ref r⟩, ⟨PyData.keyHash w.params (PySem.Str.ofString "coeffs"), .str (PySem.Str.ofString "coeffs") t9, .ref lf⟩] 2),
      (r, instObj 282 dr), (dr, dictOf [⟨PyData.keyHash w.params (PySem.Str.ofString "q"), .str (PySem.Str.ofString "q") t1, .int 3329 t2⟩, ⟨PyData.keyHash w.params (PySem.Str.ofString "n"), .str (PySem.Str.ofString "n") t3, .int 256 t4⟩,
        ⟨PyData.keyHash w.params (PySem.Str.ofString "ntt_zetas"), .str (PySem.Str.ofString "ntt_zetas") t5, .ref z⟩, ⟨PyData.keyHash w.params (PySem.Str.ofString "ntt_f"), .str (PySem.Str.ofString "ntt_f") t6, .int 3303 t7⟩] 4), (z, W.listOf zv.toArray nz), (lf, W.listOf fv.toArray nf), (lg, W.listOf gv.toArray ng)])
    (N : News h₀ L s.heap news)
    (T : Top p loose mean mg mb h₀) (hk : cs.kind = .function) (hd : dp + 5 < recursionLimit)
    (hzi : IntsAre zv zs) (hfi : IntsAre fv fs) (hgi : IntsAre gv gs) (hzl : zs.length = 128) (hfl : fs.length = 256) (hgl : gs.length = 256)
    (hzb : ∀ y ∈ zs, 0 ≤ y ∧ y < 3329) (hfb : ∀ y ∈ fs, 0 ≤ y ∧ y < 3329) (hgb : ∀ y ∈ gs, 0 ≤ y ∧ y < 3329)
    (hret : ∀ (l : Nat) ws nl h' tks, IntsAre ws (mulL zs fs gs) → Fr h₀ L h' m → News h₀ L h' ((l, W.listOf ws.toArray nl) :: news) → s.heap.get? l = none → Keeps s.heap h' (news.map (·.1)) → Q (.ref l) { s with heap := h', toks := tks }) :
    wpAny (model PySem.Challenge.rw_yi0043_01.prog w) (ktrTop dp un gd cn cs L a ccd cl outer) (call (.ref 397) [.ref x, .ref lf, .ref lg]) Q E s := by
  w_on
  w_strict (
    revert X
    k_fill
    intro X
    subst hnews
    have hfn := hfi.length
    have hgn := hgi.length
    have hzn := hzi.length
    refine wpAny_call ?_
    k_dflt tb_start
    k_steps
    refine' hret _ _ _ _ _ ?hw ?F ?N ?fr ?kp
    case F => k_asm
    case N => (refine' cb_drop ?cbN ?cbS; (case cbN => assumption); (case cbS => kcj_all))
    case hw =>
      with_reducible rename (_ = mulTo zs fs gs 64) => hQ
      rw [mulL_def, ← hQ]
      assumption
    case kp =>
      with_reducible rename Keeps _ _ _ => kg
      exact Keeps.trans kg (Fr.keep (by k_asm))
    case fr =>
      with_reducible rename Keeps _ _ _ => kg
      refine fresh_of kg (by assumption) (.head _) ?_
      simp only [List.map, List.mem_cons, List.not_mem_nil, or_false, not_or]
      refine ⟨neN ?_, neN ?_, neN ?_, neN ?_, neN ?_, neN ?_, neN ?_⟩ <;> omega)
end

section
def AllNe (d : Nat) : List (Addr × Obj) → Prop
  | [] => True
  | p :: r => @Ne Nat p.1 d ∧ AllNe d r
theorem AllNe.get {d a : Nat} {o : Obj} : ∀ {l : List (Addr × Obj)}, AllNe d l → (a, o) ∈ l → @Ne Nat a d
  | _ :: _, h, .head _ => h.1
  | _ :: _, h, .tail _ m => AllNe.get h.2 m
theorem allNe_of {d : Nat} : ∀ {l : List (Addr × Obj)}, (∀ p ∈ l, p.1 ≠ d) → AllNe d l
  | [], _ => trivial
  | p :: _, h => ⟨h p (.head _), allNe_of fun q hq => h q (.tail _ hq)⟩
theorem allNe_new {h h₀ : Heap} {L : Addr} {news : List (Addr × Obj)} {l : Nat} (N : News h₀ L h news) (e : h.get? l = none) : AllNe l news :=
  allNe_of fun p hp q => by have := (N p hp).1; rw [q, e] at this; cases this
theorem root_n {w : World} {p : Program} {loose : List Str} {mean : ExcName → Option Value} {mg mb : Str → Option Value} {dp un : Nat} {gd : Option (List Code)} {cn : Str} {cs : Scope} {a : Addr} {ccd : Value} {cl : List (Str × Addr)} {outer : List Env} {A₀ : Around} {base h₀ : Heap} {L : Addr} {m : Str → Option Value} {s : Shared}
    {Q E : Value → Shared → Prop} {k : Int} {tk : Tok} {news : List (Addr × Obj)}
    (B : Below A₀ base outer h₀) (F : Fr h₀ L s.heap m) (X : (Mine.hd.heap_1 w.params).In h₀) (N : News h₀ L s.heap news) (T : Top p loose mean mg mb h₀) (hk : cs.kind = .function) (hd : dp + 1 < recursionLimit) (h0 : 0 ≤ k) (h1 : k < 128)
    (hret : ∀ t h' tks, Fr h₀ L h' m → News h₀ L h' news → Q (.int (rootF k) t) { s with heap := h', toks := tks }) :
    wpAny (model PySem.Challenge.rw_yi0043_01.prog w) (ktrTop dp un gd cn cs L a ccd cl outer) (call (.ref 447) [.int k tk]) Q E s :=
  root_c B F X News.nil T hk hd h0 h1 fun t h' tks F' kp => hret t h' tks F' (Keeps.news (part := []) (new := []) N (fun _ h => nomatch h) kp News.nil)
theorem full_n {w : World} {p : Program} {loose : List Str} {mean : ExcName → Option Value} {mg mb : Str → Option Value} {dp un : Nat} {gd : Option (List Code)} {cn : Str} {cs : Scope} {a : Addr} {ccd : Value} {cl : List (Str × Addr)} {outer : List Env} {A₀ : Around} {base h₀ : Heap} {L : Addr} {m : Str → Option Value} {s : Shared}
    {Q E : Value → Shared → Prop} {st c : Addr} {k : Int} {tk : Tok} {n1 n2 : Nat} {vs : List Value} {ns : List Int} {news : List (Addr × Obj)} {g1 : Obj → List (Addr × Obj)} {g2 : Obj → Obj → List (Addr × Obj)}
    (B : Below A₀ base outer h₀) (F : Fr h₀ L s.heap m) (X : (Mine.hd.heap_1 w.params).In h₀) (N : News h₀ L s.heap news) (T : Top p loose mean mg mb h₀) (hk : cs.kind = .function)
    (U1 : UpdF st (W.listOf #[.int k tk, .ref c] n1) news g1) (U2 : ∀ o, UpdF c (W.listOf vs.toArray n2) (g1 o) (g2 o))
    (hd : dp + 3 < recursionLimit) (hne : @Ne Nat st c)
    (hi : IntsAre vs ns) (hlen : 0 < ns.length) (hlen2 : ns.length < 100) (hpos : ∀ x ∈ ns, 0 ≤ x) (hk0 : 0 ≤ k) (hk1 : k < 500)
    (hret : ∀ (l : Nat) k' tk' n1' n2' vs' ns' ws xs nl h' tks, 0 ≤ k' → k' ≤ k + 3 → IntsAre vs' ns' → ns'.length = ns.length → (∀ x ∈ ns', 0 ≤ x) → IntsAre ws xs → xs.length = 256 → (∀ x ∈ xs, 0 ≤ x ∧ x < 3329) → Fr h₀ L h' m →
      News h₀ L h' ((l, W.listOf ws.toArray nl) :: g2 (W.listOf #[.int k' tk', .ref c] n1') (W.listOf vs'.toArray n2')) → AllNe l news → Q (.ref l) { s with heap := h', toks := tks }) :
    wpAny (model PySem.Challenge.rw_yi0043_01.prog w) (ktrTop dp un gd cn cs L a ccd cl outer) (call (.ref 452) [.ref st]) Q E s := by
  obtain ⟨rest, r1, r2, hin, hout⟩ := upd_two U1 U2 hne
  refine full_c (n1 := n1) (n2 := n2) (tk := tk) B F X (fun p hp => N p (hin p ?_)) T hk hd hne hi hlen hlen2 hpos hk0 hk1 fun l k' tk' n1' n2' vs' ns' ws xs nl h' tks b1 b2 b3 b4 b5 b6 b7 b8 F' N' fr kp => hret l k' tk' n1' n2' vs' ns' ws xs nl h' tks b1 b2 b3 b4 b5 b6 b7 b8 F' ?_ (allNe_new N fr)
  · rcases List.mem_cons.mp hp with rfl | hp
    · exact .head _
    · rcases List.mem_cons.mp hp with rfl | hp
      · exact .tail _ (.head _)
      · cases hp
  · intro q hq
    rcases List.mem_cons.mp hq with rfl | hq
    · exact N' _ (.head _)
    · rcases List.mem_cons.mp (hout _ _ q hq) with rfl | hq
      · exact N' _ (.tail _ (.head _))
      · rcases List.mem_cons.mp hq with rfl | hq
        · exact N' _ (.tail _ (.tail _ (.head _)))
        · have z := N q (hin q (.tail _ (.tail _ hq)))
          refine ⟨kp _ _ z.1 ?_, z.2⟩
          intro hm
          rcases List.mem_cons.mp hm with e | hm
          · exact r1 q hq e
          · rcases List.mem_cons.mp hm with e | hm
            · exact r2 q hq e
            · cases hm
theorem mul_n {w : World} {p : Program} {loose : List Str} {mean : ExcName → Option Value} {mg mb : Str → Option Value} {dp un : Nat} {gd : Option (List Code)} {cn : Str} {cs : Scope} {a : Addr} {ccd : Value} {cl : List (Str × Addr)} {outer : List Env} {A₀ : Around} {base h₀ : Heap} {L : Addr} {m : Str → Option Value} {s : Shared}
    {Q E : Value → Shared → Prop} {x dx r dr z lf lg : Nat} {news : List (Addr × Obj)} {fs gs zs : List Int} {fv gv zv : List Value} {nf ng nz : Nat} {t1 t2 t3 t4 t5 t6 t7 t8 t9 : Tok}
    (B : Below A₀ base outer h₀) (F : Fr h₀ L s.heap m) (X : (Mine.hd.heap_1 w.params).In h₀) (N : News h₀ L s.heap news) (T : Top p loose mean mg mb h₀) (hk : cs.kind = .function) (hsub : ∀ p ∈ ([(x, instObj 426 dx), (dx, dictOf [⟨PyData.keyHash w.params (PySem.Str.ofString "parent"), .str (PySem.Str.ofString "parent") t8, .ref r⟩, ⟨PyData.keyHash w.params (PySem.Str.ofString "coeffs"), .str (PySem.Str.ofString "coeffs") t9, .ref lf⟩] 2),
      (r, instObj 282 dr), (dr, dictOf [⟨PyData.keyHash w.params (PySem.Str.ofString "q"), .str (PySem.Str.ofString "q") t1, .int 3329 t2⟩, ⟨PyData.keyHash w.params (PySem.Str.ofString "n"), .str (PySem.Str.ofString "n") t3, .int 256 t4⟩,
        ⟨PyData.keyHash w.params (PySem.Str.ofString "ntt_zetas"), .str (PySem.Str.ofString "ntt_zetas") t5, .ref z⟩, ⟨PyData.keyHash w.params (PySem.Str.ofString "ntt_f"), .str (PySem.Str.ofString "ntt_f") t6, .int 3303 t7⟩] 4), (z, W.listOf zv.toArray nz), (lf, W.listOf fv.toArray nf), (lg, W.listOf gv.toArray ng)] : List (Addr × Obj)), p ∈ news) (hd : dp + 5 < recursionLimit)
    (hzi : IntsAre zv zs) (hfi : IntsAre fv fs) (hgi : IntsAre gv gs) (hzl : zs.length = 128) (hfl : fs.length = 256) (hgl : gs.length = 256)
    (hzb : ∀ y ∈ zs, 0 ≤ y ∧ y < 3329) (hfb : ∀ y ∈ fs, 0 ≤ y ∧ y < 3329) (hgb : ∀ y ∈ gs, 0 ≤ y ∧ y < 3329)
    (hret : ∀ (l : Nat) ws nl h' tks, IntsAre ws (mulL zs fs gs) → Fr h₀ L h' m → News h₀ L h' ((l, W.listOf ws.toArray nl) :: news) → AllNe l news → Q (.ref l) { s with heap := h', toks := tks }) :
    wpAny (model PySem.Challenge.rw_yi0043_01.prog w) (ktrTop dp un gd cn cs L a ccd cl outer) (call (.ref 397) [.ref x, .ref lf, .ref lg]) Q E s :=
  mul_c B F X rfl (fun p hp => N p (hsub p hp)) T hk hd hzi hfi hgi hzl hfl hgl hzb hfb hgb fun l ws nl h' tks b1 F' N' fr kp => hret l ws nl h' tks b1 F' (Keeps.news (new := [(l, W.listOf ws.toArray nl)]) N hsub kp N') (allNe_new N fr)
end

section
/-- an object called, by keywords too -/
theorem callWith_inst_kw {M : Model} {A : Around} {E : Value → Shared → Prop} {s : Shared} {K : Frag} {env : Env} {pos : Pos} {x C : Addr} {ox : Obj} {od : Option Obj} {first : List Value} {Q : Value → Shared → Prop} {f : Addr} {e : Expr} {rest : List Expr} {kws : List Keyword}
    (_X : K.In s.heap) (_I : InstAt s.heap x ox C od) (hd : ox.data = .plain) (_hs : findIn K (.ref C) "__call__" = some (some (.ref f))) (hall : (backToKw pos (keywordEach kws env)).all (·.1.isSome) = true)
    (h : wpAny M A (spliced (backTo pos (starEach (e :: rest) env))) (fun vs s₁ => wpAny M A (evalAll ((backToKw pos (keywordEach kws env)).map (·.2)))
      (fun ks s₂ => kco_P K x C ox od s₂.heap ∧ wpAny M A (call (.ref x) (first ++ vs) (((backToKw pos (keywordEach kws env)).filterMap (·.1)).zip ks)) Q E s₂) E s₁) E s)
    (hplain : ((backTo pos (starEach (e :: rest) env)).any (·.1) || (backToKw pos (keywordEach kws env)).any (·.1.isNone)) = false := by rfl) (he : starEach (e :: rest) env = (false, eval e env) :: starEach rest env := by rfl) :
    wpAny M A (callWith pos (.ref x) first (backTo pos (starEach (e :: rest) env)) (backToKw pos (keywordEach kws env))) Q E s :=
  kco_callWith_of hplain hd (evalArgs_kw2 hall h he)
end

section
local macro_rules | `(tactic| k_room) => `(tactic| ktr_room)
local macro_rules | `(tactic| tb_start) => `(tactic| (refine' code_frame ?k1 ?k2 ?k3 ?k4 ?k5 ?kA ?kF ?kK ?k6 ?k7 ?k8 ?k9 ?kB ?_ ?c2 ?c3 ?c4 ?c5; (case kA => exact rfl); (case kF => exact rfl); (case kK => assumption); (case k1 => k_asm); (case k2 => k_asm); (case k3 => k_asm); (case k4 => k_asm); (case k5 => k_asm); (case k6 => k_is); (case k7 => k_is); (case k8 => ktr_room); (case k9 => first | exact BindsTo.of_eq rfl | exact binds_K (by k_in) rfl (by k_is) rfl rfl rfl); (case c5 => decide); (case kB => exact locs rfl); (case c2 => exact rfl); (case c3 => exact rfl); (case c4 => exact rfl); k_whole; intro g' L' h' FG' F' N' B' X' T' KG'; (try dsimp only); (try k_lift B'); (try k_fold)))
local macro_rules | `(tactic| walk_at "call builtin:isinstance") => `(tactic| (k_here; k_dflt (refine' isi_call ?k1 ?k2 ?k3 ?k4 ?_; (case k1 => k_in); (case k2 => k_types); (case k3 => k_is); (case k4 => intro e; cases e); k_whole)))
set_option maxHeartbeats 8000000 in
theorem poly_c {w : World} {p : Program} {loose : List Str} {mean : ExcName → Option Value} {mg mb : Str → Option Value} {dp un : Nat} {gd : Option (List Code)} {cn : Str} {cs : Scope} {a : Addr} {ccd : Value} {cl : List (Str × Addr)} {outer : List Env} {A₀ : Around} {base h₀ : Heap} {L : Addr} {m : Str → Option Value} {s : Shared}
    {Q E : Value → Shared → Prop} {r dr z lc : Nat} {news : List (Addr × Obj)} {cz : List Int} {cv : List Value} {nc : Nat} {t1 t2 t3 t4 t5 t6 t7 : Tok}
    (hnews : news = [(r, instObj 282 dr), (dr, dictOf [⟨PyData.keyHash w.params (PySem.Str.ofString "q"), .str (PySem.Str.ofString "q") t1, .int 3329 t2⟩, ⟨PyData.keyHash w.params (PySem.Str.ofString "n"), .str (PySem.Str.ofString "n") t3, .int 256 t4⟩,
        ⟨PyData.keyHash w.params (PySem.Str.ofString "ntt_zetas"), .str (PySem.Str.ofString "ntt_zetas") t5, .ref z⟩, ⟨PyData.keyHash w.params (PySem.Str.ofString "ntt_f"), .str (PySem.Str.ofString "ntt_f") t6, .int 3303 t7⟩] 4), (lc, W.listOf cv.toArray nc)])
    (B : Below A₀ base outer h₀) (F : Fr h₀ L s.heap m) (X : (Mine.hd.heap_1 w.params).In h₀) (N : News h₀ L s.heap news) (T : Top p loose mean mg mb h₀) (hk : cs.kind = .function) (hd : dp + 5 < recursionLimit) (hci : IntsAre cv cz) (hcl : cz.length = 256)
    (hret : ∀ (x dx : Nat) t8 t9 h' tks, Fr h₀ L h' m → News h₀ L h' ((x, instObj 426 dx) :: (dx, dictOf [⟨PyData.keyHash w.params (PySem.Str.ofString "parent"), .str (PySem.Str.ofString "parent") t8, .ref r⟩, ⟨PyData.keyHash w.params (PySem.Str.ofString "coeffs"), .str (PySem.Str.ofString "coeffs") t9, .ref lc⟩] 2) :: news) → s.heap.get? x = none → s.heap.get? dx = none → @LT.lt Nat _ dx x → Keeps s.heap h' (news.map (·.1)) → Q (.ref x) { s with heap := h', toks := tks }) :
    wpAny (model PySem.Challenge.rw_yi0043_01.prog w) (ktrTop dp un gd cn cs L a ccd cl outer) (call (.ref r) [.ref lc] [(PySem.Str.ofString "is_ntt", .bool true)]) Q E s := by
  w_on
  w_strict (
    revert X
    k_fill
    intro X
    subst hnews
    have hcn := hci.length
    refine wpAny_call ?_
    k_dflt (refine' kco_code ?i1 ?i2 ?i3 ?i4 ?i5 ?i6 ?_; (case i1 => k_in); (case i2 => k_inst); (case i3 => rfl); (case i4 => k_is); (case i5 => k_is); (case i6 => k_is); (try dsimp only); tb_start)
    k_steps
    refine' hret _ _ _ _ _ _ ?F ?N ?f1 ?f2 ?lt ?kp
    case F => k_asm
    case N => (refine' cb_drop ?cbN ?cbS; (case cbN => assumption); (case cbS => kcj_all))
    case kp =>
      with_reducible rename Keeps _ _ _ => kg
      exact Keeps.trans kg (Fr.keep (by k_asm))
    case lt => omega
    case f1 =>
      with_reducible rename Keeps _ _ _ => kg
      refine fresh_of kg (by assumption) (by k_mem) ?_
      simp only [List.map, List.mem_cons, List.not_mem_nil, or_false, not_or]
      refine ⟨neN ?_, neN ?_, neN ?_⟩ <;> omega
    case f2 =>
      with_reducible rename Keeps _ _ _ => kg
      refine fresh_of kg (by assumption) (by k_mem) ?_
      simp only [List.map, List.mem_cons, List.not_mem_nil, or_false, not_or]
      refine ⟨neN ?_, neN ?_, neN ?_⟩ <;> omega)
end

section
theorem mulL_len (zs fs gs : List Int) : (mulL zs fs gs).length = 256 := by rw [mulL_def]; exact mulTo_len zs fs gs 64
theorem poly_n {w : World} {p : Program} {loose : List Str} {mean : ExcName → Option Value} {mg mb : Str → Option Value} {dp un : Nat} {gd : Option (List Code)} {cn : Str} {cs : Scope} {a : Addr} {ccd : Value} {cl : List (Str × Addr)} {outer : List Env} {A₀ : Around} {base h₀ : Heap} {L : Addr} {m : Str → Option Value} {s : Shared}
    {Q E : Value → Shared → Prop} {r dr z lc : Nat} {news : List (Addr × Obj)} {cz : List Int} {cv : List Value} {nc : Nat} {t1 t2 t3 t4 t5 t6 t7 : Tok}
    (B : Below A₀ base outer h₀) (F : Fr h₀ L s.heap m) (X : (Mine.hd.heap_1 w.params).In h₀) (N : News h₀ L s.heap news) (T : Top p loose mean mg mb h₀) (hk : cs.kind = .function) (hsub : ∀ p ∈ ([(r, instObj 282 dr), (dr, dictOf [⟨PyData.keyHash w.params (PySem.Str.ofString "q"), .str (PySem.Str.ofString "q") t1, .int 3329 t2⟩, ⟨PyData.keyHash w.params (PySem.Str.ofString "n"), .str (PySem.Str.ofString "n") t3, .int 256 t4⟩,
        ⟨PyData.keyHash w.params (PySem.Str.ofString "ntt_zetas"), .str (PySem.Str.ofString "ntt_zetas") t5, .ref z⟩, ⟨PyData.keyHash w.params (PySem.Str.ofString "ntt_f"), .str (PySem.Str.ofString "ntt_f") t6, .int 3303 t7⟩] 4), (lc, W.listOf cv.toArray nc)] : List (Addr × Obj)), p ∈ news) (hd : dp + 5 < recursionLimit) (hci : IntsAre cv cz) (hcl : cz.length = 256)
    (hret : ∀ (x dx : Nat) t8 t9 h' tks, Fr h₀ L h' m → News h₀ L h' ((x, instObj 426 dx) :: (dx, dictOf [⟨PyData.keyHash w.params (PySem.Str.ofString "parent"), .str (PySem.Str.ofString "parent") t8, .ref r⟩, ⟨PyData.keyHash w.params (PySem.Str.ofString "coeffs"), .str (PySem.Str.ofString "coeffs") t9, .ref lc⟩] 2) :: news) → AllNe x news → AllNe dx news → @LT.lt Nat _ dx x → Q (.ref x) { s with heap := h', toks := tks }) :
    wpAny (model PySem.Challenge.rw_yi0043_01.prog w) (ktrTop dp un gd cn cs L a ccd cl outer) (call (.ref r) [.ref lc] [(PySem.Str.ofString "is_ntt", .bool true)]) Q E s :=
  poly_c rfl B F X (fun p hp => N p (hsub p hp)) T hk hd hci hcl fun x dx t8 t9 h' tks F' N' f1 f2 lt kp => hret x dx t8 t9 h' tks F' (Keeps.news (new := [(x, instObj 426 dx), (dx, dictOf [⟨PyData.keyHash w.params (PySem.Str.ofString "parent"), .str (PySem.Str.ofString "parent") t8, .ref r⟩, ⟨PyData.keyHash w.params (PySem.Str.ofString "coeffs"), .str (PySem.Str.ofString "coeffs") t9, .ref lc⟩] 2)]) N hsub kp N') (allNe_new N f1) (allNe_new N f2) lt
end

section
local macro_rules | `(tactic| k_ne) => `(tactic| (refine neN ?_; (try dsimp only); first | exact AllNe.get (by with_reducible assumption) (by k_mem) | exact Ne.symm (AllNe.get (by with_reducible assumption) (by k_mem)) | omega))
local macro_rules | `(tactic| k_room) => `(tactic| ktr_room)
local macro_rules | `(tactic| tb_start) => `(tactic| (refine' code_frame ?k1 ?k2 ?k3 ?k4 ?k5 ?kA ?kF ?kK ?k6 ?k7 ?k8 ?k9 ?kB ?_ ?c2 ?c3 ?c4 ?c5; (case kA => exact rfl); (case kF => exact rfl); (case kK => assumption); (case k1 => k_asm); (case k2 => k_asm); (case k3 => k_asm); (case k4 => k_asm); (case k5 => k_asm); (case k6 => k_is); (case k7 => k_is); (case k8 => ktr_room); (case k9 => first | exact BindsTo.of_eq rfl | exact binds_K (by k_in) rfl (by k_is) rfl rfl rfl); (case c5 => decide); (case kB => exact locs rfl); (case c2 => exact rfl); (case c3 => exact rfl); (case c4 => exact rfl); k_whole; intro g' L' h' FG' F' N' B' X' T' KG'; (try dsimp only); (try k_lift B'); (try k_fold)))
local macro_rules | `(tactic| walk_at "call ref") => `(tactic| (k_here; (with_reducible show wpAny _ _ (call (Value.ref 397) _) _ _ _); k_dflt (refine' mul_n ?B ?F ?X ?N ?T ?hk ?hsub ?hd ?hzi ?hfi ?hgi ?hzl ?hfl ?hgl ?hzb ?hfb ?hgb ?_; (case B => k_asm); (case F => k_asm); (case X => k_asm); (case N => k_asm); (case T => k_asm); (case hk => first | exact rfl | assumption); (case hsub => kcj_all); (case hd => ktr_room); (case hzi => assumption); (case hfi => assumption); (case hgi => assumption); (case hzl => assumption); (case hfl => assumption); (case hgl => assumption); (case hzb => assumption); (case hfb => assumption); (case hgb => assumption); k_whole; intro l9 ws9 nl9 h9 tks9 b91 F9 N9 ne9; (try k_sweep); (try dsimp only); (try k_fold))))
local macro_rules | `(tactic| walk_at "call ref") => `(tactic| (k_here; k_dflt (show wpAny _ _ (call (Value.ref _) [Value.ref _] [(PySem.Str.ofString "is_ntt", Value.bool true)]) _ _ _); k_dflt (refine' poly_n ?B ?F ?X ?N ?T ?hk ?hsub ?hd ?hci ?hcl ?_; (case B => k_asm); (case F => k_asm); (case X => k_asm); (case N => k_asm); (case T => k_asm); (case hk => first | exact rfl | assumption); (case hsub => kcj_all); (case hd => ktr_room); (case hci => assumption); (case hcl => first | exact mulL_len _ _ _ | with_reducible assumption); k_whole; intro x9 dx9 t98 t99 h9 tks9 F9 N9 ne91 ne92 lt9; (try k_sweep); (try dsimp only); (try k_fold))))
local macro_rules | `(tactic| walk_at "getMethod ref") => `(tactic| (k_here; (with_reducible show wpAny _ _ (getMethod (Value.ref _) (PySem.Str.ofString "parent") _) _ _ _); k_dflt (refine' kmu_own ?k1 ?k2 ?k3 ?k4 ?k5 ?_; (case k1 => k_asm); (case k2 => k_asm); (case k3 => k_inst); (case k4 => k_is); (case k5 => k_is); k_whole)))
set_option maxHeartbeats 8000000 in
theorem ntt_c {w : World} {p : Program} {loose : List Str} {mean : ExcName → Option Value} {mg mb : Str → Option Value} {dp un : Nat} {gd : Option (List Code)} {cn : Str} {cs : Scope} {a : Addr} {ccd : Value} {cl : List (Str × Addr)} {outer : List Env} {A₀ : Around} {base h₀ : Heap} {L : Addr} {m : Str → Option Value} {s : Shared}
    {Q E : Value → Shared → Prop} {x dx y dy r dr z lf lg : Nat} {news : List (Addr × Obj)} {fs gs zs : List Int} {fv gv zv : List Value} {nf ng nz : Nat} {t1 t2 t3 t4 t5 t6 t7 t8 t9 ta tb : Tok}
    (hnews : news = [(x, instObj 426 dx), (dx, dictOf [⟨PyData.keyHash w.params (PySem.Str.ofString "parent"), .str (PySem.Str.ofString "parent") t8, .ref r⟩, ⟨PyData.keyHash w.params (PySem.Str.ofString "coeffs"), .str (PySem.Str.ofString "coeffs") t9, .ref lf⟩] 2), (y, instObj 426 dy), (dy, dictOf [⟨PyData.keyHash w.params (PySem.Str.ofString "parent"), .str (PySem.Str.ofString "parent") ta, .ref r⟩, ⟨PyData.keyHash w.params (PySem.Str.ofString "coeffs"), .str (PySem.Str.ofString "coeffs") tb, .ref lg⟩] 2), (r, instObj 282 dr), (dr, dictOf [⟨PyData.keyHash w.params (PySem.Str.ofString "q"), .str (PySem.Str.ofString "q") t1, .int 3329 t2⟩, ⟨PyData.keyHash w.params (PySem.Str.ofString "n"), .str (PySem.Str.ofString "n") t3, .int 256 t4⟩,
        ⟨PyData.keyHash w.params (PySem.Str.ofString "ntt_zetas"), .str (PySem.Str.ofString "ntt_zetas") t5, .ref z⟩, ⟨PyData.keyHash w.params (PySem.Str.ofString "ntt_f"), .str (PySem.Str.ofString "ntt_f") t6, .int 3303 t7⟩] 4), (z, W.listOf zv.toArray nz), (lf, W.listOf fv.toArray nf), (lg, W.listOf gv.toArray ng)])
    (B : Below A₀ base outer h₀) (F : Fr h₀ L s.heap m) (X : (Mine.hd.heap_1 w.params).In h₀) (N : News h₀ L s.heap news) (T : Top p loose mean mg mb h₀) (hk : cs.kind = .function) (hd : dp + 7 < recursionLimit)
    (hzi : IntsAre zv zs) (hfi : IntsAre fv fs) (hgi : IntsAre gv gs) (hzl : zs.length = 128) (hfl : fs.length = 256) (hgl : gs.length = 256)
    (hzb : ∀ y ∈ zs, 0 ≤ y ∧ y < 3329) (hfb : ∀ y ∈ fs, 0 ≤ y ∧ y < 3329) (hgb : ∀ y ∈ gs, 0 ≤ y ∧ y < 3329)
    (hret : ∀ (l : Nat) ws nl h' tks, IntsAre ws (mulL zs fs gs) → Fr h₀ L h' m → News h₀ L h' ((l, W.listOf ws.toArray nl) :: news) → s.heap.get? l = none → Keeps s.heap h' (news.map (·.1)) → Q (.ref l) { s with heap := h', toks := tks }) :
    wpAny (model PySem.Challenge.rw_yi0043_01.prog w) (ktrTop dp un gd cn cs L a ccd cl outer) (call (.ref 404) [.ref x, .ref y]) Q E s := by
  w_on
  w_strict (
    revert X
    k_fill
    intro X
    subst hnews
    have hfn := hfi.length
    have hgn := hgi.length
    have hzn := hzi.length
    refine wpAny_call ?_
    k_dflt tb_start
    k_steps
    refine' hret _ _ _ _ _ ?hw ?F ?N ?fr ?kp
    case F => k_asm
    case N => (refine' cb_drop ?cbN ?cbS; (case cbN => assumption); (case cbS => kcj_all))
    case hw => with_reducible assumption
    case kp =>
      with_reducible rename Keeps _ _ _ => kg
      exact Keeps.trans kg (Fr.keep (by k_asm))
    case fr =>
      with_reducible rename Keeps _ _ _ => kg
      refine fresh_of kg (by assumption) (by k_mem) ?_
      simp only [List.map, List.mem_cons, List.not_mem_nil, or_false, not_or]
      refine ⟨?_, ?_, ?_, ?_, ?_, ?_, ?_, ?_, ?_⟩ <;> k_ne)
theorem ntt_n {w : World} {p : Program} {loose : List Str} {mean : ExcName → Option Value} {mg mb : Str → Option Value} {dp un : Nat} {gd : Option (List Code)} {cn : Str} {cs : Scope} {a : Addr} {ccd : Value} {cl : List (Str × Addr)} {outer : List Env} {A₀ : Around} {base h₀ : Heap} {L : Addr} {m : Str → Option Value} {s : Shared}
    {Q E : Value → Shared → Prop} {x dx y dy r dr z lf lg : Nat} {news : List (Addr × Obj)} {fs gs zs : List Int} {fv gv zv : List Value} {nf ng nz : Nat} {t1 t2 t3 t4 t5 t6 t7 t8 t9 ta tb : Tok}
    (B : Below A₀ base outer h₀) (F : Fr h₀ L s.heap m) (X : (Mine.hd.heap_1 w.params).In h₀) (N : News h₀ L s.heap news) (T : Top p loose mean mg mb h₀) (hk : cs.kind = .function) (hsub : ∀ p ∈ ([(x, instObj 426 dx), (dx, dictOf [⟨PyData.keyHash w.params (PySem.Str.ofString "parent"), .str (PySem.Str.ofString "parent") t8, .ref r⟩, ⟨PyData.keyHash w.params (PySem.Str.ofString "coeffs"), .str (PySem.Str.ofString "coeffs") t9, .ref lf⟩] 2), (y, instObj 426 dy), (dy, dictOf [⟨PyData.keyHash w.params (PySem.Str.ofString "parent"), .str (PySem.Str.ofString "parent") ta, .ref r⟩, ⟨PyData.keyHash w.params (PySem.Str.ofString "coeffs"), .str (PySem.Str.ofString "coeffs") tb, .ref lg⟩] 2), (r, instObj 282 dr), (dr, dictOf [⟨PyData.keyHash w.params (PySem.Str.ofString "q"), .str (PySem.Str.ofString "q") t1, .int 3329 t2⟩, ⟨PyData.keyHash w.params (PySem.Str.ofString "n"), .str (PySem.Str.ofString "n") t3, .int 256 t4⟩,
        ⟨PyData.keyHash w.params (PySem.Str.ofString "ntt_zetas"), .str (PySem.Str.ofString "ntt_zetas") t5, .ref z⟩, ⟨PyData.keyHash w.params (PySem.Str.ofString "ntt_f"), .str (PySem.Str.ofString "ntt_f") t6, .int 3303 t7⟩] 4), (z, W.listOf zv.toArray nz), (lf, W.listOf fv.toArray nf), (lg, W.listOf gv.toArray ng)] : List (Addr × Obj)), p ∈ news) (hd : dp + 7 < recursionLimit)
    (hzi : IntsAre zv zs) (hfi : IntsAre fv fs) (hgi : IntsAre gv gs) (hzl : zs.length = 128) (hfl : fs.length = 256) (hgl : gs.length = 256)
    (hzb : ∀ y ∈ zs, 0 ≤ y ∧ y < 3329) (hfb : ∀ y ∈ fs, 0 ≤ y ∧ y < 3329) (hgb : ∀ y ∈ gs, 0 ≤ y ∧ y < 3329)
    (hret : ∀ (l : Nat) ws nl h' tks, IntsAre ws (mulL zs fs gs) → Fr h₀ L h' m → News h₀ L h' ((l, W.listOf ws.toArray nl) :: news) → AllNe l news → Q (.ref l) { s with heap := h', toks := tks }) :
    wpAny (model PySem.Challenge.rw_yi0043_01.prog w) (ktrTop dp un gd cn cs L a ccd cl outer) (call (.ref 404) [.ref x, .ref y]) Q E s :=
  ntt_c rfl B F X (fun p hp => N p (hsub p hp)) T hk hd hzi hfi hgi hzl hfl hgl hzb hfb hgb fun l ws nl h' tks b1 F' N' fr kp => hret l ws nl h' tks b1 F' (Keeps.news (new := [(l, W.listOf ws.toArray nl)]) N hsub kp N') (allNe_new N fr)
end

section
local macro_rules | `(tactic| k_ne) => `(tactic| (refine neN ?_; (try dsimp only); first | exact AllNe.get (by with_reducible assumption) (by k_mem) | exact Ne.symm (AllNe.get (by with_reducible assumption) (by k_mem)) | omega))
local macro_rules | `(tactic| k_room) => `(tactic| ktr_room)
local macro_rules | `(tactic| tb_start) => `(tactic| (refine' code_frame ?k1 ?k2 ?k3 ?k4 ?k5 ?kA ?kF ?kK ?k6 ?k7 ?k8 ?k9 ?kB ?_ ?c2 ?c3 ?c4 ?c5; (case kA => exact rfl); (case kF => exact rfl); (case kK => assumption); (case k1 => k_asm); (case k2 => k_asm); (case k3 => k_asm); (case k4 => k_asm); (case k5 => k_asm); (case k6 => k_is); (case k7 => k_is); (case k8 => ktr_room); (case k9 => first | exact BindsTo.of_eq rfl | exact binds_K (by k_in) rfl (by k_is) rfl rfl rfl); (case c5 => decide); (case kB => exact locs rfl); (case c2 => exact rfl); (case c3 => exact rfl); (case c4 => exact rfl); k_whole; intro g' L' h' FG' F' N' B' X' T' KG'; (try dsimp only); (try k_lift B'); (try k_fold)))
local macro_rules | `(tactic| walk_at "call builtin:isinstance") => `(tactic| (k_here; k_dflt (refine' isi_call ?k1 ?k2 ?k3 ?k4 ?_; (case k1 => k_in); (case k2 => k_types); (case k3 => k_is); (case k4 => intro e; cases e); k_whole)))
local macro_rules | `(tactic| walk_at "callWith ref") => `(tactic| (k_here; (with_reducible show wpAny _ _ (callWith _ (Value.ref _) _ _ (backToKw _ _)) _ _ _); k_dflt (refine' callWith_inst_kw ?k1 ?k2 ?k3 ?k4 ?k5 ?_; (case k1 => k_in); (case k2 => k_inst); (case k3 => rfl); (case k4 => k_is); (case k5 => exact rfl); k_whole)))
local macro_rules | `(tactic| walk_at "call ref") => `(tactic| (k_here; (with_reducible show wpAny _ _ (call (Value.ref 397) _) _ _ _); k_dflt (refine' mul_n ?B ?F ?X ?N ?T ?hk ?hsub ?hd ?hzi ?hfi ?hgi ?hzl ?hfl ?hgl ?hzb ?hfb ?hgb ?_; (case B => k_asm); (case F => k_asm); (case X => k_asm); (case N => k_asm); (case T => k_asm); (case hk => first | exact rfl | assumption); (case hsub => kcj_all); (case hd => ktr_room); (case hzi => assumption); (case hfi => assumption); (case hgi => assumption); (case hzl => assumption); (case hfl => assumption); (case hgl => assumption); (case hzb => assumption); (case hfb => assumption); (case hgb => assumption); k_whole; intro l9 ws9 nl9 h9 tks9 b91 F9 N9 ne9; (try k_sweep); (try dsimp only); (try k_fold))))
local macro_rules | `(tactic| walk_at "call ref") => `(tactic| (k_here; k_dflt (show wpAny _ _ (call (Value.ref _) [Value.ref _] [(PySem.Str.ofString "is_ntt", Value.bool true)]) _ _ _); k_dflt (refine' poly_n ?B ?F ?X ?N ?T ?hk ?hsub ?hd ?hci ?hcl ?_; (case B => k_asm); (case F => k_asm); (case X => k_asm); (case N => k_asm); (case T => k_asm); (case hk => first | exact rfl | assumption); (case hsub => kcj_all); (case hd => ktr_room); (case hci => assumption); (case hcl => first | exact mulL_len _ _ _ | with_reducible assumption); k_whole; intro x9 dx9 t98 t99 h9 tks9 F9 N9 ne91 ne92 lt9; (try k_sweep); (try dsimp only); (try k_fold))))
local macro_rules | `(tactic| walk_at "getMethod ref") => `(tactic| (k_here; (with_reducible show wpAny _ _ (getMethod (Value.ref _) (PySem.Str.ofString "parent") _) _ _ _); k_dflt (refine' kmu_own ?k1 ?k2 ?k3 ?k4 ?k5 ?_; (case k1 => k_asm); (case k2 => k_asm); (case k3 => k_inst); (case k4 => k_is); (case k5 => k_is); k_whole)))
local macro_rules | `(tactic| walk_at "call ref") => `(tactic| (k_here; (with_reducible show wpAny _ _ (call (Value.ref 404) _) _ _ _); k_dflt (refine' ntt_n ?B ?F ?X ?N ?T ?hk ?hsub ?hd ?hzi ?hfi ?hgi ?hzl ?hfl ?hgl ?hzb ?hfb ?hgb ?_; (case B => k_asm); (case F => k_asm); (case X => k_asm); (case N => k_asm); (case T => k_asm); (case hk => first | exact rfl | assumption); (case hsub => kcj_all); (case hd => ktr_room); (case hzi => assumption); (case hfi => assumption); (case hgi => assumption); (case hzl => assumption); (case hfl => assumption); (case hgl => assumption); (case hzb => assumption); (case hfb => assumption); (case hgb => assumption); k_whole; intro l9 ws9 nl9 h9 tks9 b91 F9 N9 ne9; (try k_sweep); (try dsimp only); (try k_fold))))
set_option maxHeartbeats 8000000 in
theorem prod_c {w : World} {p : Program} {loose : List Str} {mean : ExcName → Option Value} {mg mb : Str → Option Value} {dp un : Nat} {gd : Option (List Code)} {cn : Str} {cs : Scope} {a : Addr} {ccd : Value} {cl : List (Str × Addr)} {outer : List Env} {A₀ : Around} {base h₀ : Heap} {L : Addr} {m : Str → Option Value} {s : Shared}
    {Q E : Value → Shared → Prop} {x dx y dy r dr z lf lg : Nat} {news : List (Addr × Obj)} {fs gs zs : List Int} {fv gv zv : List Value} {nf ng nz : Nat} {t1 t2 t3 t4 t5 t6 t7 t8 t9 ta tb : Tok}
    (hnews : news = [(x, instObj 426 dx), (dx, dictOf [⟨PyData.keyHash w.params (PySem.Str.ofString "parent"), .str (PySem.Str.ofString "parent") t8, .ref r⟩, ⟨PyData.keyHash w.params (PySem.Str.ofString "coeffs"), .str (PySem.Str.ofString "coeffs") t9, .ref lf⟩] 2), (y, instObj 426 dy), (dy, dictOf [⟨PyData.keyHash w.params (PySem.Str.ofString "parent"), .str (PySem.Str.ofString "parent") ta, .ref r⟩, ⟨PyData.keyHash w.params (PySem.Str.ofString "coeffs"), .str (PySem.Str.ofString "coeffs") tb, .ref lg⟩] 2), (r, instObj 282 dr), (dr, dictOf [⟨PyData.keyHash w.params (PySem.Str.ofString "q"), .str (PySem.Str.ofString "q") t1, .int 3329 t2⟩, ⟨PyData.keyHash w.params (PySem.Str.ofString "n"), .str (PySem.Str.ofString "n") t3, .int 256 t4⟩,
        ⟨PyData.keyHash w.params (PySem.Str.ofString "ntt_zetas"), .str (PySem.Str.ofString "ntt_zetas") t5, .ref z⟩, ⟨PyData.keyHash w.params (PySem.Str.ofString "ntt_f"), .str (PySem.Str.ofString "ntt_f") t6, .int 3303 t7⟩] 4), (z, W.listOf zv.toArray nz), (lf, W.listOf fv.toArray nf), (lg, W.listOf gv.toArray ng)])
    (B : Below A₀ base outer h₀) (F : Fr h₀ L s.heap m) (X : (Mine.hd.heap_1 w.params).In h₀) (N : News h₀ L s.heap news) (T : Top p loose mean mg mb h₀) (hk : cs.kind = .function) (hd : dp + 9 < recursionLimit)
    (hzi : IntsAre zv zs) (hfi : IntsAre fv fs) (hgi : IntsAre gv gs) (hzl : zs.length = 128) (hfl : fs.length = 256) (hgl : gs.length = 256)
    (hzb : ∀ y ∈ zs, 0 ≤ y ∧ y < 3329) (hfb : ∀ y ∈ fs, 0 ≤ y ∧ y < 3329) (hgb : ∀ y ∈ gs, 0 ≤ y ∧ y < 3329) (hnd : @Ne Nat x dx ∧ @Ne Nat x r)
    (hret : ∀ (l q dq : Nat) ws nl tc td h' tks, IntsAre ws (mulL zs fs gs) → Fr h₀ L h' m → News h₀ L h' ((q, instObj 426 dq) :: (dq, dictOf [⟨PyData.keyHash w.params (PySem.Str.ofString "parent"), .str (PySem.Str.ofString "parent") tc, .ref r⟩, ⟨PyData.keyHash w.params (PySem.Str.ofString "coeffs"), .str (PySem.Str.ofString "coeffs") td, .ref l⟩] 2) :: (l, W.listOf ws.toArray nl) :: news) → s.heap.get? l = none → s.heap.get? q = none → s.heap.get? dq = none → @Ne Nat l q ∧ @Ne Nat l dq ∧ @LT.lt Nat _ dq q → Keeps s.heap h' (news.map (·.1)) → Q (.ref q) { s with heap := h', toks := tks }) :
    wpAny (model PySem.Challenge.rw_yi0043_01.prog w) (ktrTop dp un gd cn cs L a ccd cl outer) (call (.ref 423) [.ref x, .ref y]) Q E s := by
  w_on
  w_strict (
    revert X
    k_fill
    intro X
    subst hnews
    have hfn := hfi.length
    have hgn := hgi.length
    have hzn := hzi.length
    refine wpAny_call ?_
    k_dflt (
      (refine' code_frameC ?j1 ?j2 ?j3 ?j4 ?j5 ?kA ?kF ?kK ?j6 ?j7 ?k8 ?k9 ?kB ?kD ?_ ?c2 ?c3 ?c4; (case kA => exact rfl); (case kF => exact rfl); (case kK => assumption); (case j1 => k_asm); (case j2 => k_asm); (case j3 => k_asm); (case j4 => k_asm); (case j5 => k_asm); (case j6 => k_is); (case j7 => k_is); (case k8 => ktr_room); (case k9 => exact BindsTo.of_eq rfl); (case kB => exact rfl); (case kD => decide +kernel); (case c2 => exact rfl); (case c3 => exact rfl); (case c4 => exact rfl); k_whole; intro g' L' h' tk' cells' FG' F' N' Y' B' X' T' l1 KG'; (try k_lt l1); k_cells Y'; (try simp only [List.cons_append, List.nil_append] at N'); (try dsimp only); (try k_lift B'); (try k_fold)))
    k_steps
    refine' hret _ _ _ _ _ _ _ _ _ ?hw ?F ?N ?f1 ?f2 ?f3 ?lt ?kp
    case F => k_asm
    case N => (refine' cb_drop ?cbN ?cbS; (case cbN => assumption); (case cbS => kcj_all))
    case hw => with_reducible assumption
    case kp =>
      with_reducible rename Keeps _ _ _ => kg
      exact Keeps.trans kg (Fr.keep (by k_asm))
    case lt => exact ⟨by k_ne, by k_ne, by assumption⟩
    case f1 =>
      with_reducible rename Keeps _ _ _ => kg
      refine fresh_of kg (by assumption) (by k_mem) ?_
      simp only [List.map, List.mem_cons, List.not_mem_nil, or_false, not_or]
      refine ⟨?_, ?_, ?_, ?_, ?_, ?_, ?_, ?_, ?_⟩ <;> k_ne
    case f2 =>
      with_reducible rename Keeps _ _ _ => kg
      refine fresh_of kg (by assumption) (by k_mem) ?_
      simp only [List.map, List.mem_cons, List.not_mem_nil, or_false, not_or]
      refine ⟨?_, ?_, ?_, ?_, ?_, ?_, ?_, ?_, ?_⟩ <;> k_ne
    case f3 =>
      with_reducible rename Keeps _ _ _ => kg
      refine fresh_of kg (by assumption) (by k_mem) ?_
      simp only [List.map, List.mem_cons, List.not_mem_nil, or_false, not_or]
      refine ⟨?_, ?_, ?_, ?_, ?_, ?_, ?_, ?_, ?_⟩ <;> k_ne)
theorem prod_n {w : World} {p : Program} {loose : List Str} {mean : ExcName → Option Value} {mg mb : Str → Option Value} {dp un : Nat} {gd : Option (List Code)} {cn : Str} {cs : Scope} {a : Addr} {ccd : Value} {cl : List (Str × Addr)} {outer : List Env} {A₀ : Around} {base h₀ : Heap} {L : Addr} {m : Str → Option Value} {s : Shared}
    {Q E : Value → Shared → Prop} {x dx y dy r dr z lf lg : Nat} {news : List (Addr × Obj)} {fs gs zs : List Int} {fv gv zv : List Value} {nf ng nz : Nat} {t1 t2 t3 t4 t5 t6 t7 t8 t9 ta tb : Tok}
    (B : Below A₀ base outer h₀) (F : Fr h₀ L s.heap m) (X : (Mine.hd.heap_1 w.params).In h₀) (N : News h₀ L s.heap news) (T : Top p loose mean mg mb h₀) (hk : cs.kind = .function) (hsub : ∀ p ∈ ([(x, instObj 426 dx), (dx, dictOf [⟨PyData.keyHash w.params (PySem.Str.ofString "parent"), .str (PySem.Str.ofString "parent") t8, .ref r⟩, ⟨PyData.keyHash w.params (PySem.Str.ofString "coeffs"), .str (PySem.Str.ofString "coeffs") t9, .ref lf⟩] 2), (y, instObj 426 dy), (dy, dictOf [⟨PyData.keyHash w.params (PySem.Str.ofString "parent"), .str (PySem.Str.ofString "parent") ta, .ref r⟩, ⟨PyData.keyHash w.params (PySem.Str.ofString "coeffs"), .str (PySem.Str.ofString "coeffs") tb, .ref lg⟩] 2), (r, instObj 282 dr), (dr, dictOf [⟨PyData.keyHash w.params (PySem.Str.ofString "q"), .str (PySem.Str.ofString "q") t1, .int 3329 t2⟩, ⟨PyData.keyHash w.params (PySem.Str.ofString "n"), .str (PySem.Str.ofString "n") t3, .int 256 t4⟩,
        ⟨PyData.keyHash w.params (PySem.Str.ofString "ntt_zetas"), .str (PySem.Str.ofString "ntt_zetas") t5, .ref z⟩, ⟨PyData.keyHash w.params (PySem.Str.ofString "ntt_f"), .str (PySem.Str.ofString "ntt_f") t6, .int 3303 t7⟩] 4), (z, W.listOf zv.toArray nz), (lf, W.listOf fv.toArray nf), (lg, W.listOf gv.toArray ng)] : List (Addr × Obj)), p ∈ news) (hd : dp + 9 < recursionLimit)
    (hzi : IntsAre zv zs) (hfi : IntsAre fv fs) (hgi : IntsAre gv gs) (hzl : zs.length = 128) (hfl : fs.length = 256) (hgl : gs.length = 256)
    (hzb : ∀ y ∈ zs, 0 ≤ y ∧ y < 3329) (hfb : ∀ y ∈ fs, 0 ≤ y ∧ y < 3329) (hgb : ∀ y ∈ gs, 0 ≤ y ∧ y < 3329) (hnd : @Ne Nat x dx ∧ @Ne Nat x r)
    (hret : ∀ (l q dq : Nat) ws nl tc td h' tks, IntsAre ws (mulL zs fs gs) → Fr h₀ L h' m → News h₀ L h' ((q, instObj 426 dq) :: (dq, dictOf [⟨PyData.keyHash w.params (PySem.Str.ofString "parent"), .str (PySem.Str.ofString "parent") tc, .ref r⟩, ⟨PyData.keyHash w.params (PySem.Str.ofString "coeffs"), .str (PySem.Str.ofString "coeffs") td, .ref l⟩] 2) :: (l, W.listOf ws.toArray nl) :: news) → AllNe l news → AllNe q news → AllNe dq news → @Ne Nat l q ∧ @Ne Nat l dq ∧ @LT.lt Nat _ dq q → Q (.ref q) { s with heap := h', toks := tks }) :
    wpAny (model PySem.Challenge.rw_yi0043_01.prog w) (ktrTop dp un gd cn cs L a ccd cl outer) (call (.ref 423) [.ref x, .ref y]) Q E s :=
  prod_c rfl B F X (fun p hp => N p (hsub p hp)) T hk hd hzi hfi hgi hzl hfl hgl hzb hfb hgb hnd fun l q dq ws nl tc td h' tks b1 F' N' f1 f2 f3 lt kp => hret l q dq ws nl tc td h' tks b1 F' (Keeps.news (new := [(q, instObj 426 dq), (dq, dictOf [⟨PyData.keyHash w.params (PySem.Str.ofString "parent"), .str (PySem.Str.ofString "parent") tc, .ref r⟩, ⟨PyData.keyHash w.params (PySem.Str.ofString "coeffs"), .str (PySem.Str.ofString "coeffs") td, .ref l⟩] 2), (l, W.listOf ws.toArray nl)]) N hsub kp N') (allNe_new N f1) (allNe_new N f2) (allNe_new N f3) lt
end

section
@[irreducible] def zetas : List Int := (rangeKs 0 128).map zetaF
theorem zetas_def : zetas = (rangeKs 0 128).map zetaF := by unfold zetas; rfl
theorem zetas_of {vs : List Value} (h : IntsAre vs ((rangeKs 0 128).map zetaF)) : IntsAre vs zetas := by rw [zetas_def]; exact h
theorem zetas_len : zetas.length = 128 := by rw [zetas_def, List.length_map, rangeKs_length]
theorem zetas_bd0 : ((rangeKs 0 128).map zetaF).all (fun y => decide (0 ≤ y ∧ y < 3329)) = true := by decide +kernel
theorem zetas_bd : ∀ y ∈ zetas, 0 ≤ y ∧ y < 3329 := by
  rw [zetas_def]
  intro y hy
  exact of_decide_eq_true (List.all_eq_true.mp zetas_bd0 y hy)
end

section
theorem quad_comm (zs fs gs : List Int) (i : Int) : quad zs fs gs i = quad zs gs fs i := by
  unfold quad
  rw [Int.mul_comm (fs.getD (4 * i + 0).toNat 0) (gs.getD (4 * i + 0).toNat 0), Int.mul_right_comm (zs.getD (64 + i).toNat 0) (fs.getD (4 * i + 1).toNat 0), Int.mul_comm (fs.getD (4 * i + 1).toNat 0) (gs.getD (4 * i + 0).toNat 0),
    Int.mul_comm (fs.getD (4 * i + 0).toNat 0) (gs.getD (4 * i + 1).toNat 0), Int.add_comm (gs.getD (4 * i + 0).toNat 0 * fs.getD (4 * i + 1).toNat 0),
    Int.mul_comm (fs.getD (4 * i + 2).toNat 0) (gs.getD (4 * i + 2).toNat 0), Int.mul_right_comm (-zs.getD (64 + i).toNat 0) (fs.getD (4 * i + 3).toNat 0), Int.mul_comm (fs.getD (4 * i + 3).toNat 0) (gs.getD (4 * i + 2).toNat 0),
    Int.mul_comm (fs.getD (4 * i + 2).toNat 0) (gs.getD (4 * i + 3).toNat 0), Int.add_comm (gs.getD (4 * i + 2).toNat 0 * fs.getD (4 * i + 3).toNat 0)]
theorem mulTo_comm (zs fs gs : List Int) : ∀ n, mulTo zs fs gs n = mulTo zs gs fs n
  | 0 => rfl
  | n + 1 => by rw [mulTo, mulTo, mulTo_comm zs fs gs n, quad_comm]
theorem mulL_comm (zs fs gs : List Int) : mulL zs fs gs = mulL zs gs fs := by rw [mulL_def, mulL_def, mulTo_comm]
theorem mulTo_getD (zs fs gs : List Int) (j : Nat) (hj : j < 4) : ∀ (n i : Nat), i < n → (mulTo zs fs gs n).getD (4 * i + j) 0 = (quad zs fs gs (i : Int)).getD j 0
  | n + 1, i, h => by
    rw [mulTo]
    by_cases hi : i < n
    · rw [List.getD_eq_getElem?_getD, List.getElem?_append_left (by rw [mulTo_len]; omega), ← List.getD_eq_getElem?_getD]
      exact mulTo_getD zs fs gs j hj n i hi
    · have e : i = n := by omega
      subst e
      rw [List.getD_eq_getElem?_getD, List.getElem?_append_right (by rw [mulTo_len]; omega), mulTo_len, ← List.getD_eq_getElem?_getD]
      congr 1
      omega
theorem root_even0 : ∀ i : Nat, i < 64 → ((rangeKs 0 128).map zetaF).getD (64 + i) 0 = rootF (2 * (i : Int)) := by decide +kernel
theorem root_odd0 : ∀ i : Nat, i < 64 → rootF (2 * (i : Int) + 1) = 3329 - ((rangeKs 0 128).map zetaF).getD (64 + i) 0 := by decide +kernel
theorem root_bd0 : ∀ i : Nat, i < 128 → 0 ≤ rootF (i : Int) ∧ rootF (i : Int) < 3329 := by decide +kernel
theorem root_ok {k : Int} (h0 : 0 ≤ k) (h1 : k < 128) (a : Int) : IntMulOk a (rootF k) := by
  obtain ⟨n, rfl⟩ := Int.eq_ofNat_of_zero_le h0
  have := root_bd0 n (by omega)
  exact .of_right (intBits_le_64 (by omega) (by omega))
theorem law0 {fs gs : List Int} {k : Int} (h0 : 0 ≤ k) (h1 : k < 128) :
    (mulL zetas fs gs).getD (2 * k).toNat 0 = (fs.getD (2 * k).toNat 0 * gs.getD (2 * k).toNat 0 + fs.getD (2 * k + 1).toNat 0 * gs.getD (2 * k + 1).toNat 0 * rootF k).fmod 3329 := by
  obtain ⟨n, rfl⟩ := Int.eq_ofNat_of_zero_le h0
  have hn : n < 128 := by omega
  rw [mulL_def]
  rcases Nat.mod_two_eq_zero_or_one n with hm | hm
  · obtain ⟨i, rfl⟩ : ∃ i, n = 2 * i := ⟨n / 2, by omega⟩
    have e1 : (2 * ((2 * i : Nat) : Int)).toNat = 4 * i + 0 := by omega
    have e2 : (2 * ((2 * i : Nat) : Int) + 1).toNat = 4 * i + 1 := by omega
    rw [e1, e2, mulTo_getD zetas fs gs 0 (by decide) 64 i (by omega)]
    have f0 : (4 * (i : Int) + 0).toNat = 4 * i + 0 := by omega
    have f1 : (4 * (i : Int) + 1).toNat = 4 * i + 1 := by omega
    have fz : (64 + (i : Int)).toNat = 64 + i := by omega
    show (fs.getD (4 * (i : Int) + 0).toNat 0 * gs.getD (4 * (i : Int) + 0).toNat 0 + zetas.getD (64 + (i : Int)).toNat 0 * fs.getD (4 * (i : Int) + 1).toNat 0 * gs.getD (4 * (i : Int) + 1).toNat 0).fmod 3329 = _
    rw [f0, f1, fz, zetas_def, root_even0 i (by omega)]
    have e3 : ((2 * i : Nat) : Int) = 2 * (i : Int) := by omega
    rw [e3, Int.mul_assoc (rootF (2 * (i : Int))), Int.mul_comm (rootF (2 * (i : Int)))]
  · obtain ⟨i, rfl⟩ : ∃ i, n = 2 * i + 1 := ⟨n / 2, by omega⟩
    have e1 : (2 * ((2 * i + 1 : Nat) : Int)).toNat = 4 * i + 2 := by omega
    have e2 : (2 * ((2 * i + 1 : Nat) : Int) + 1).toNat = 4 * i + 3 := by omega
    rw [e1, e2, mulTo_getD zetas fs gs 2 (by decide) 64 i (by omega)]
    have f0 : (4 * (i : Int) + 2).toNat = 4 * i + 2 := by omega
    have f1 : (4 * (i : Int) + 3).toNat = 4 * i + 3 := by omega
    have fz : (64 + (i : Int)).toNat = 64 + i := by omega
    show (fs.getD (4 * (i : Int) + 2).toNat 0 * gs.getD (4 * (i : Int) + 2).toNat 0 + -zetas.getD (64 + (i : Int)).toNat 0 * fs.getD (4 * (i : Int) + 3).toNat 0 * gs.getD (4 * (i : Int) + 3).toNat 0).fmod 3329 = _
    have e3 : ((2 * i + 1 : Nat) : Int) = 2 * (i : Int) + 1 := by omega
    rw [f0, f1, fz, zetas_def, e3, root_odd0 i (by omega)]
    generalize ((rangeKs 0 128).map zetaF).getD (64 + i) 0 = z
    generalize fs.getD (4 * i + 2) 0 * gs.getD (4 * i + 2) 0 = u
    generalize fs.getD (4 * i + 3) 0 = x
    generalize gs.getD (4 * i + 3) 0 = y
    have e : u + x * y * (3329 - z) = (u + -z * x * y) + 3329 * (x * y) := by
      rw [Int.mul_sub, Int.mul_assoc (-z) x y, Int.neg_mul, Int.mul_comm (x * y) 3329, Int.mul_comm (x * y) z]
      omega
    rw [e, Int.add_mul_fmod_self_left]
theorem law1 {fs gs : List Int} {k : Int} (h0 : 0 ≤ k) (h1 : k < 128) :
    (mulL zetas fs gs).getD (2 * k + 1).toNat 0 = (fs.getD (2 * k).toNat 0 * gs.getD (2 * k + 1).toNat 0 + fs.getD (2 * k + 1).toNat 0 * gs.getD (2 * k).toNat 0).fmod 3329 := by
  obtain ⟨n, rfl⟩ := Int.eq_ofNat_of_zero_le h0
  have hn : n < 128 := by omega
  rw [mulL_def]
  rcases Nat.mod_two_eq_zero_or_one n with hm | hm
  · obtain ⟨i, rfl⟩ : ∃ i, n = 2 * i := ⟨n / 2, by omega⟩
    have e1 : (2 * ((2 * i : Nat) : Int)).toNat = 4 * i + 0 := by omega
    have e2 : (2 * ((2 * i : Nat) : Int) + 1).toNat = 4 * i + 1 := by omega
    rw [e1, e2, mulTo_getD zetas fs gs 1 (by decide) 64 i (by omega)]
    have f0 : (4 * (i : Int) + 0).toNat = 4 * i + 0 := by omega
    have f1 : (4 * (i : Int) + 1).toNat = 4 * i + 1 := by omega
    show (fs.getD (4 * (i : Int) + 1).toNat 0 * gs.getD (4 * (i : Int) + 0).toNat 0 + fs.getD (4 * (i : Int) + 0).toNat 0 * gs.getD (4 * (i : Int) + 1).toNat 0).fmod 3329 = _
    rw [f0, f1, Int.add_comm]
  · obtain ⟨i, rfl⟩ : ∃ i, n = 2 * i + 1 := ⟨n / 2, by omega⟩
    have e1 : (2 * ((2 * i + 1 : Nat) : Int)).toNat = 4 * i + 2 := by omega
    have e2 : (2 * ((2 * i + 1 : Nat) : Int) + 1).toNat = 4 * i + 3 := by omega
    rw [e1, e2, mulTo_getD zetas fs gs 3 (by decide) 64 i (by omega)]
    have f0 : (4 * (i : Int) + 2).toNat = 4 * i + 2 := by omega
    have f1 : (4 * (i : Int) + 3).toNat = 4 * i + 3 := by omega
    show (fs.getD (4 * (i : Int) + 3).toNat 0 * gs.getD (4 * (i : Int) + 2).toNat 0 + fs.getD (4 * (i : Int) + 2).toNat 0 * gs.getD (4 * (i : Int) + 3).toNat 0).fmod 3329 = _
    rw [f0, f1, Int.add_comm]
section
variable {prog : Program} {w : World} {A : Around} {E : Value → Shared → Prop} {s : Shared} {h₀ : Heap} {L : Addr} {m : Str → Option Value} {news : List (Addr × Obj)}
/-- two places of a list of ints, cut out -/
theorem slice2 {l : Addr} {value slice : PySem.Expr} {vs : List Value} {ns : List Int} {n : Nat} {vl vu : Value} {i : Int} {Q : Value → Shared → Prop} (F : Fr h₀ L s.heap m) (N : News h₀ L s.heap news) (hm : (l, W.listOf vs.toArray n) ∈ news) (pl : IsPart vl (some i)) (pu : IsPart vu (some (i + 2)))
    (hi : IntsAre vs ns) (h0 : 0 ≤ i) (h1 : i + 2 ≤ 256) (hl : ns.length = 256)
    (h : ∀ D t t' h', Fr h₀ L h' m → News h₀ L h' ((D, W.listOf #[.int (ns.getD i.toNat 0) t, .int (ns.getD (i + 1).toNat 0) t'] 0) :: news) → (∀ p ∈ news, p.1 < D) → Q (.ref D) { s with heap := h' })
    (hs : subscripted slice false (.ref l) (.ref s.heap.objs.size) = operate [.ref s.heap.objs.size, .ref l] (getItem (.ref l) (.ref s.heap.objs.size))) :
    wpAny (model prog w) A (subscriptTail value slice (.ref l) (.ref s.heap.objs.size)) Q E { s with heap := s.heap.push { cls := .type "slice", data := .fields #[vl, vu, .none] } } := by
  have hk := kmk_run hi h0 (show 0 ≤ i + 2 by omega)
  have e : (ns.drop i.toNat).take (min (i + 2).toNat ns.length - i.toNat) = [ns.getD i.toNat 0, ns.getD (i + 1).toNat 0] := by
    have a1 : i.toNat < ns.length := by omega
    have a2 : i.toNat + 1 < ns.length := by omega
    have e1 : (i + 1).toNat = i.toNat + 1 := by omega
    have e2 : min (i + 2).toNat ns.length - i.toNat = 2 := by omega
    rw [e2, e1, List.getD_eq_getElem?_getD, List.getD_eq_getElem?_getD, List.getElem?_eq_getElem a1, List.getElem?_eq_getElem a2, List.drop_eq_getElem_cons a1, List.drop_eq_getElem_cons a2]
    rfl
  rw [e] at hk
  have hL : s.heap.IsList l vs.toArray := PySem.IsL.isList (n := n) (N _ hm).1
  have hz : vs.toArray.size ≤ sizeLine := by rw [List.size_toArray, hi.length, hl, sizeLine_eq]; decide
  refine tail_any (Heap.IsList.typeIs (s := { s with heap := s.heap.push { cls := .type "slice", data := .fields #[vl, vu, .none] } }) (hL.push _)) list_getitem_lookup
    (wpAny_getItem_list_slice (hL.push _) (Heap.IsSliceOf.new ..) pl pu .none (by simp) ?_ hz) hs
  have N1 := News.push (F.push { cls := .type "slice", data := .fields #[vl, vu, .none] }) (N.grown fun _ _ e => Heap.get?_push_of_some _ e) { cls := .type "list", data := .seq (slicePick vs.toArray (some i) (some (i + 2)) none) }
  have q : ∃ t t', slicePick vs.toArray (some i) (some (i + 2)) none = #[.int (ns.getD i.toNat 0) t, .int (ns.getD (i + 1).toNat 0) t'] := by
    generalize slicePick vs.toArray (some i) (some (i + 2)) none = z at hk
    obtain ⟨z⟩ := z
    cases hk with
    | cons _ t hw =>
      cases hw with
      | cons _ t' hw =>
        cases hw
        exact ⟨t, t', rfl⟩
  obtain ⟨t, t', q⟩ := q
  rw [q] at N1 ⊢
  exact h _ t t' _ ((F.push _).push _) N1 fun p hp => Nat.lt_of_lt_of_le (Heap.lt_size (N p hp).1) (by rw [Heap.size_push]; exact Nat.le_succ _)
/-- two lists of the same ints are not unequal -/
theorem ne_same {a b : Addr} {xs ys : List Value} {ns ms : List Int} {n1 n2 : Nat} {Q : Value → Shared → Prop} (N : News h₀ L s.heap news) (ha : (a, W.listOf xs.toArray n1) ∈ news) (hb : (b, W.listOf ys.toArray n2) ∈ news) (hi : IntsAre xs ns) (hj : IntsAre ys ms) (e : ns = ms) (hu : A.units + 64 < cLine) (h : Q (.bool false) s) :
    wpAny (model prog w) A (compareOp .NotEq (.ref a) (.ref b)) Q E s :=
  ke_ne_ints (PySem.IsL.isList (n := n1) (N _ ha).1) (PySem.IsL.isList (n := n2) (N _ hb).1) hi hj hu (by rw [decide_eq_true e]; exact h)
end
end
end Mine

open Mine
local macro_rules | `(tactic| k_ne) => `(tactic| (refine neN ?_; (try dsimp only); first | exact AllNe.get (by with_reducible assumption) (by k_mem) | exact Ne.symm (AllNe.get (by with_reducible assumption) (by k_mem)) | omega))
local macro_rules | `(tactic| k_room) => `(tactic| ktr_room)
local macro_rules | `(tactic| walk_at "call ref") => `(tactic| (k_here; (with_reducible show wpAny _ _ (call (Value.ref 440) _) _ _ _); k_dflt (refine' take_c ?B ?F ?X ?N ?T ?hk ?U1 ?U2 ?hd ?hne ?hi ?hlen ?hlen2 ?hpos ?hk0 ?hk1 ?hm0 ?hm1 ?_; (case B => k_asm); (case F => k_asm); (case X => k_asm); (case N => k_asm); (case T => k_asm); (case hk => first | exact rfl | assumption); (case U1 => k_updF); (case U2 => intro o9; k_updF); (case hd => ktr_room); (case hne => assumption); (case hi => assumption); (case hlen => omega); (case hlen2 => omega); (case hpos => assumption); (case hk0 => omega); (case hk1 => omega); (case hm0 => decide); (case hm1 => decide); k_whole; intro v9 t9 k9 tk9 n91 n92 vs9 ns9 h9 tks9 a91 a92 a93 a94 a95 a96 a97 F9 N9; (try k_sweep); (try dsimp only); (try k_fold))))
local macro_rules | `(tactic| walk_at "call ref") => `(tactic| (k_here; (with_reducible show wpAny _ _ (call (Value.ref 397) _) _ _ _); k_dflt (refine' mul_n ?B ?F ?X ?N ?T ?hk ?hsub ?hd ?hzi ?hfi ?hgi ?hzl ?hfl ?hgl ?hzb ?hfb ?hgb ?_; (case B => k_asm); (case F => k_asm); (case X => k_asm); (case N => k_asm); (case T => k_asm); (case hk => first | exact rfl | assumption); (case hsub => kcj_all); (case hd => ktr_room); (case hzi => assumption); (case hfi => assumption); (case hgi => assumption); (case hzl => assumption); (case hfl => assumption); (case hgl => assumption); (case hzb => assumption); (case hfb => assumption); (case hgb => assumption); k_whole; intro l9 ws9 nl9 h9 tks9 b91 F9 N9 ne9; (try k_sweep); (try dsimp only); (try k_fold))))
local macro_rules | `(tactic| walk_at "call ref") => `(tactic| (k_here; k_dflt (show wpAny _ _ (call (Value.ref _) [Value.ref _] [(PySem.Str.ofString "is_ntt", Value.bool true)]) _ _ _); k_dflt (refine' poly_n ?B ?F ?X ?N ?T ?hk ?hsub ?hd ?hci ?hcl ?_; (case B => k_asm); (case F => k_asm); (case X => k_asm); (case N => k_asm); (case T => k_asm); (case hk => first | exact rfl | assumption); (case hsub => kcj_all); (case hd => ktr_room); (case hci => assumption); (case hcl => first | exact mulL_len _ _ _ | with_reducible assumption); k_whole; intro x9 dx9 t98 t99 h9 tks9 F9 N9 ne91 ne92 lt9; (try k_sweep); (try dsimp only); (try k_fold))))
local macro_rules | `(tactic| walk_at "getMethod ref") => `(tactic| (k_here; (with_reducible show wpAny _ _ (getMethod (Value.ref _) (PySem.Str.ofString "parent") _) _ _ _); k_dflt (refine' kmu_own ?k1 ?k2 ?k3 ?k4 ?k5 ?_; (case k1 => k_asm); (case k2 => k_asm); (case k3 => k_inst); (case k4 => k_is); (case k5 => k_is); k_whole)))
local macro_rules | `(tactic| walk_at "call ref") => `(tactic| (k_here; (with_reducible show wpAny _ _ (call (Value.ref 433) _) _ _ _); k_dflt (refine' state_c ?B ?F ?X ?N ?T ?hk ?hd ?hl ?hi ?hlen ?_; (case B => k_asm); (case F => k_asm); (case X => k_asm); (case N => k_asm); (case T => k_asm); (case hk => first | exact rfl | assumption); (case hd => ktr_room); (case hl => assumption); (case hi => assumption); (case hlen => omega); k_whole; intro st9 c9 n91 n92 tk9 vs9 ns9 h9 tks9 a91 a92 a93 a94 a95 F9 N9; (try k_sweep); (try dsimp only); (try k_fold))))
local macro_rules | `(tactic| walk_at "call ref") => `(tactic| (k_here; (with_reducible show wpAny _ _ (call (Value.ref 282) _) _ _ _); k_dflt (refine' ring_c ?B ?F ?X ?N ?T ?hk ?hd ?_; (case B => k_asm); (case F => k_asm); (case X => k_asm); (case N => k_asm); (case T => k_asm); (case hk => first | exact rfl | assumption); (case hd => ktr_room); k_whole; intro r9 dr9 z9 vs9 nz9 t91 t92 t93 t94 t95 t96 t97 h9 tks9 hz9 F9 N9 l9; (have hz8 := zetas_of hz9); (clear hz9); (try k_sweep); (try dsimp only); (try k_fold))))
local macro_rules | `(tactic| walk_at "call ref") => `(tactic| (k_here; (with_reducible show wpAny _ _ (call (Value.ref 452) _) _ _ _); k_dflt (refine' full_n ?B ?F ?X ?N ?T ?hk ?U1 ?U2 ?hd ?hne ?hi ?hlen ?hlen2 ?hpos ?hk0 ?hk1 ?_; (case B => k_asm); (case F => k_asm); (case X => k_asm); (case N => k_asm); (case T => k_asm); (case hk => first | exact rfl | assumption); (case U1 => k_updF); (case U2 => intro o9; k_updF); (case hd => ktr_room); (case hne => assumption); (case hi => assumption); (case hlen => omega); (case hlen2 => omega); (case hpos => assumption); (case hk0 => omega); (case hk1 => omega); k_whole; intro l9 k9 tk9 n91 n92 vs9 ns9 ws9 xs9 nl9 h9 tks9 a93 a94 a95 a96 a97 b91 b92 b93 F9 N9 ne9; (try k_sweep); (try dsimp only); (try k_fold))))
local macro_rules | `(tactic| walk_at "call ref") => `(tactic| (k_here; (with_reducible show wpAny _ _ (call (Value.ref 423) _) _ _ _); k_dflt (refine' prod_n ?B ?F ?X ?N ?T ?hk ?hsub ?hd ?hzi ?hfi ?hgi ?hzl ?hfl ?hgl ?hzb ?hfb ?hgb ?hnd ?_; (case B => k_asm); (case F => k_asm); (case X => k_asm); (case N => k_asm); (case T => k_asm); (case hk => first | exact rfl | assumption); (case hsub => kcj_all); (case hd => ktr_room); (case hzi => with_reducible assumption); (case hfi => with_reducible assumption); (case hgi => with_reducible assumption); (case hzl => exact zetas_len); (case hfl => with_reducible assumption); (case hgl => with_reducible assumption); (case hzb => exact zetas_bd); (case hfb => with_reducible assumption); (case hgb => with_reducible assumption); (case hnd => exact ⟨by k_ne, by k_ne⟩); k_whole; intro l9 q9 dq9 ws9 nl9 tc9 td9 h9 tks9 b91 F9 N9 ne91 ne92 ne93 ne94; (try k_sweep); (try dsimp only); (try dsimp only [PySem.W.CmpBack]); (try k_fold))))
local macro_rules | `(tactic| walk_at "call ref") => `(tactic| (k_here; (with_reducible show wpAny _ _ (call (Value.ref 404) _) _ _ _); k_dflt (refine' ntt_n ?B ?F ?X ?N ?T ?hk ?hsub ?hd ?hzi ?hfi ?hgi ?hzl ?hfl ?hgl ?hzb ?hfb ?hgb ?_; (case B => k_asm); (case F => k_asm); (case X => k_asm); (case N => k_asm); (case T => k_asm); (case hk => first | exact rfl | assumption); (case hsub => kcj_all); (case hd => ktr_room); (case hzi => with_reducible assumption); (case hfi => with_reducible assumption); (case hgi => with_reducible assumption); (case hzl => exact zetas_len); (case hfl => with_reducible assumption); (case hgl => with_reducible assumption); (case hzb => exact zetas_bd); (case hfb => with_reducible assumption); (case hgb => with_reducible assumption); k_whole; intro l9 ws9 nl9 h9 tks9 b91 F9 N9 ne9; (try k_sweep); (try dsimp only); (try k_fold))))
local macro_rules | `(tactic| walk_at "call ref") => `(tactic| (k_here; (with_reducible show wpAny _ _ (call (Value.ref 447) _) _ _ _); k_dflt (refine' root_n ?B ?F ?X ?N ?T ?hk ?hd ?h0 ?h1 ?_; (case B => k_asm); (case F => k_asm); (case X => k_asm); (case N => k_asm); (case T => k_asm); (case hk => first | exact rfl | assumption); (case hd => ktr_room); (case h0 => first | assumption | decide | omega); (case h1 => first | assumption | decide | omega); k_whole; intro t9 h9 tks9 F9 N9; (try k_sweep); (try dsimp only); (try k_fold))))
local macro_rules | `(tactic| walk_at "callWith ref") => `(tactic| (k_here; (with_reducible show wpAny _ _ (callWith _ (Value.ref _) _ _ (backToKw _ _)) _ _ _); k_dflt (refine' callWith_inst_kw ?k1 ?k2 ?k3 ?k4 ?k5 ?_; (case k1 => k_in); (case k2 => k_inst); (case k3 => rfl); (case k4 => k_is); (case k5 => exact rfl); k_whole)))
local macro_rules | `(tactic| walk_at "call builtin:isinstance") => `(tactic| (k_here; k_dflt (refine' isi_call ?k1 ?k2 ?k3 ?k4 ?_; (case k1 => k_in); (case k2 => k_types); (case k3 => k_is); (case k4 => intro e; cases e); k_whole)))
theorem Mine.two_eq {a b c d : Int} (h0 : a = c) (h1 : b = d) : [a, b] = [c, d] := by rw [h0, h1]
local macro_rules | `(tactic| mul_fits) => `(tactic| ((with_reducible show IntMulOk _ (List.getD _ _ _)); exact getD_ok (by with_reducible assumption) _ _))
local macro_rules | `(tactic| mul_fits) => `(tactic| ((with_reducible show IntMulOk _ (rootF _)); exact root_ok (by omega) (by omega) _))
local macro_rules | `(tactic| walk_at "call builtin:len") => `(tactic| (k_here; (with_reducible show wpAny _ _ (call (Value.builtin "len") [Value.ref _]) _ _ _); k_dflt (refine' kst_len (k := 256) ?k1 ?k2 ?k3 ?k4 ?_; (case k1 => k_asm); (case k2 => k_mem); (case k3 => exact (IntsAre.length (by with_reducible assumption)).trans (mulL_len _ _ _)); (case k4 => decide); k_whole)))
local macro_rules | `(tactic| walk_at "compareOp NotEq ref ref") => `(tactic| (k_here; (with_reducible show wpAny _ _ (compareOp CmpOp.NotEq (Value.ref _) (Value.ref _)) _ _ _); k_dflt (refine' ne_same ?N ?a ?b ?i ?j ?e ?u ?_; (case N => k_asm); (case a => k_mem); (case b => k_mem); (case i => with_reducible assumption); (case j => with_reducible assumption); (case e => exact mulL_comm _ _ _); (case u => first | ke_room | units_room); k_whole)))
local macro_rules | `(tactic| walk_at "compareOp NotEq ref ref") => `(tactic| (k_here; (with_reducible show wpAny _ _ (compareOp CmpOp.NotEq (Value.ref _) (Value.ref _)) _ _ _); k_dflt (refine' ne_same ?N ?a ?b ?i ?j ?e ?u ?_; (case N => k_asm); (case a => k_mem); (case b => k_mem); (case i => exact .cons _ _ (.cons _ _ .nil)); (case j => exact .cons _ _ (.cons _ _ .nil)); (case e => exact two_eq (law0 (by omega) (by omega)) (law1 (by omega) (by omega))); (case u => first | ke_room | units_room); k_whole)))
local macro_rules | `(tactic| walk_at "subscriptTail Name Slice ref ref") => `(tactic| (k_here; (with_reducible show wpAny _ _ (subscriptTail _ (PySem.Expr.Slice (some _) (some _) none _) (Value.ref _) (Value.ref _)) _ _ _); k_dflt (refine' slice2 ?F ?N ?m ?p ?q ?i ?h0 ?h1 ?hl ?_ ?s; (case F => k_asm); (case N => k_asm); (case m => k_mem); (case p => exact IsPart.int _ _); (case q => exact IsPart.int _ _); (case i => with_reducible assumption); (case h0 => omega); (case h1 => omega); (case hl => first | exact mulL_len _ _ _ | with_reducible assumption); (case s => with_unfolding_all rfl); k_whole); intro D' t9 t9' h' F' N' l1; (try k_lt l1); (try k_sweep)))
local macro_rules | `(tactic| walk_at "subscriptTail Attribute Name Slice ref ref") => `(tactic| (k_here; (with_reducible show wpAny _ _ (subscriptTail _ (PySem.Expr.Slice (some _) (some _) none _) (Value.ref _) (Value.ref _)) _ _ _); k_dflt (refine' slice2 ?F ?N ?m ?p ?q ?i ?h0 ?h1 ?hl ?_ ?s; (case F => k_asm); (case N => k_asm); (case m => k_mem); (case p => exact IsPart.int _ _); (case q => exact IsPart.int _ _); (case i => with_reducible assumption); (case h0 => omega); (case h1 => omega); (case hl => first | exact mulL_len _ _ _ | with_reducible assumption); (case s => with_unfolding_all rfl); k_whole); intro D' t9 t9' h' F' N' l1; (try k_lt l1); (try k_sweep)))
set_option maxHeartbeats 8000000 in
theorem PySem.Challenge.cw_yi0043_01_holds : PySem.Challenge.rw_yi0043_01.Holds := by
  w_on
  refine Mine.hd ?_
  w_strict (k_go0; (all_goals try k_fold); k_steps)
