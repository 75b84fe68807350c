import PyProof.Rows.All
import Wide.All
import OpenK.AllK
import Wide.FinOn
import Lean
import PySem.Challenge.RW_ez0344_01
set_option Elab.async false
set_option maxRecDepth 100000

section
open PySem PySem.W PyProof.Rows
namespace Mine
set_option maxHeartbeats 8000000 in
open_top hd for PySem.Challenge.rw_ez0344_01
end Mine
end

section
open PySem PySem.W PyProof.Rows PySem.Calls PySem.Spec
namespace Mine

/-- all that stood stands, but at one place -/
def Keep1 (st : Addr) (h h' : Heap) : Prop := ∀ b o, b ≠ st → h.get? b = some o → h'.get? b = some o

abbrev stO (nums : Addr) (at_ : Int) (t : Tok) : Obj := listOf [Value.ref nums, Value.int at_ t].toArray 0

theorem fdiv_eq (a b : Int) (h : 0 ≤ b) : Int.fdiv a b = a / b := Int.fdiv_eq_ediv_of_nonneg a h
theorem fmod_eq (a b : Int) (h : 0 ≤ b) : Int.fmod a b = a % b := Int.fmod_eq_emod_of_nonneg a h

theorem keep_two {h g h' : Heap} {L' st nums : Addr} {m' : Str → Option Value} {o1 o2 : Obj} (G : GSub h g ([(st, o1), (nums, o2)].map (·.1))) (F' : Fr g L' h' m') (e : h.get? nums = some o2) (e' : h'.get? nums = some o2) : Keep1 st h h' := by
  intro b o hb ho
  by_cases hn : b = nums
  · subst hn; rw [e] at ho; rw [e']; exact ho
  · refine F'.keep b o (G b o ho ?_)
    simp [hb, hn]

def NextC (w : World) (p : Program) (loose : List Str) (mean : ExcName → Option Value) (mg mb : Str → Option Value) : Prop :=
  ∀ (dp un : Nat) (gd : Option (List Code)) (cn : Str) (cs : Scope) (a : Addr) (ccd : Value) (cl : List (Str × Addr)) (outer : List Env) (A₀ : Around) (base h₀ : Heap) (L : Addr) (m : Str → Option Value) (s : Shared)
    (st nums : Addr) (at_ : Int) (t tk : Tok) (ws : List Value) (ns : List Int) (many : Int)
    (Q E : Value → Shared → Prop),
    Below A₀ base outer h₀ → Fr h₀ L s.heap m → (hd.heap_39 w.params).In h₀ → News h₀ L s.heap [(st, stO nums at_ t), (nums, listOf ws.toArray 0)] → Top p loose mean mg mb h₀ → cs.kind = .function →
    @Ne Nat st nums → IntsAre ws ns → 3 ≤ ns.length → ns.length ≤ 27 → (∀ n ∈ ns, 0 ≤ n ∧ n < 1000003) → 0 ≤ at_ → at_ < 1000 → 0 < many → many ≤ 12 →
    dp + 1 < recursionLimit → un + 8 < cLine →
    (∀ r t t' h' tk', Fr h₀ L h' m → h'.get? st = some (stO nums (at_ + 1) t') → Keep1 st s.heap h' → 0 ≤ r → r < many → Q (.int r t) { s with heap := h', toks := tk' }) →
    wpAny (model Challenge.rw_ez0344_01.row.prog w) (ktrTop dp un gd cn cs L a ccd cl outer) (call (.ref 298) [.ref st, .int many tk]) Q E s


theorem next_c (w : World) (p : Program) (loose : List Str) (mean : ExcName → Option Value) (mg mb : Str → Option Value) : NextC w p loose mean mg mb := by
  intro dp un gd cn cs a ccd cl outer A₀ base h₀ L m s st nums at_ t tk ws ns many Q E B F X N T hk hne hi hlo hhi hns hat hat' hm hm' hdp hun hret
  have hfill : PySem.Challenge.rw_ez0344_01.prog = PySem.Challenge.rw_ez0344_01.prog := rfl
  revert X hfill
  k_fill
  intro X hfill
  clear hfill
  have hlen : (0 : Int) < (ns.length : Int) := by omega
  have hq0 : 0 ≤ at_.fdiv (ns.length : Int) := by rw [fdiv_eq _ _ (by omega)]; exact Int.ediv_nonneg hat (by omega)
  have hq1 : at_.fdiv (ns.length : Int) < 1000 := by
    rw [fdiv_eq _ _ (by omega)]
    exact Int.lt_of_le_of_lt (Int.ediv_le_self _ hat) hat'
  refine wpAny_call ?_
  k_dflt ((refine' code_defG ?k1 ?k2 ?k3 ?k4 ?k5 ?kA ?kF ?kK ?k6 ?k7 ?k8 ?k9 ?kB ?_ ?c2 ?c3 ?c4 ?c5; (case kA => exact rfl); (case kF => exact rfl); (case kK => assumption); (case k1 => k_asm); (case k2 => k_asm); (case k3 => k_asm); (case k4 => k_asm); (case k5 => k_asm); (case k6 => k_is); (case k7 => k_is); (case k8 => ktr_room); (case k9 => exact BindsTo.of_eq rfl); (case c5 => decide); (case kB => exact locs rfl); (case c2 => exact rfl); (case c3 => exact rfl); (case c4 => exact rfl); k_whole; intro g' L' h' FG' F' N' B' X' T' kG'; (try dsimp only); (try k_lift B'); (try k_fold)))
  k_steps
  rename GSub _ _ _ => kG9
  rename News _ _ _ _ => kN9
  refine hret _ _ _ _ _ (by assumption) (kN9 (_, _) (by k_mem)).1 (keep_two kG9 (by assumption) (N (_, _) (by k_mem)).1 (kN9 (_, _) (by k_mem)).1) (Int.fmod_nonneg_of_pos _ hm) (Int.fmod_lt_of_pos _ hm)
end Mine
end

section
open PySem PySem.W PyProof.Rows PySem.Calls PySem.Spec
namespace Mine
section
variable {prog : Program} {w : World} {A A₀ : Around} {s : Shared} {K : Frag} {L : Addr} {h₀ base : Heap} {m mg mb : Str → Option Value} {news : List (Addr × Obj)} {p : Program} {loose : List Str} {mean : ExcName → Option Value}

/-- a call of a def with cells; what the ledger does not name stands in the ground -/
theorem code_cellsG {env : Env} {outer : List Env} {R : Result → Shared → Prop} {name qual : Str} {params : Arguments} {body : List Stmt} {scope : Scope} {dV kV doc pm cdv ct oc : Value} {an od : Option Addr} {osl : Array (Option Value)} {f : Addr} {args : Args} {binds : List (Str × Value)}
    (B : Below A₀ base outer h₀) (F : Fr h₀ L s.heap m) (X₀ : K.In h₀) (N : News h₀ L s.heap news) (T : Top p loose mean mg mb h₀) (hA : A.frames = some (env :: outer)) (hf : env.frame = some L) (hke : env.scope.kind = .function)
    (ho : K.lookup f = some ⟨oc, od, .func (fnOf name qual params body scope dV kV doc pm an cdv ct), osl⟩) (hcd : codeIn K cdv qual = true) (hroom : A.depth < recursionLimit)
    (hbind : BindsTo s (fnOf name qual params body scope dV kV doc pm an cdv ct) args binds) (hkind : (binds.all fun y => scope.names.lookup y.1 == some .local || scope.names.lookup y.1 == some .cell) = true)
    (hnd : ((cellsFrom 0 scope.names []).map (·.1)).Nodup)
    (h : ∀ g L' h₁ tk cells, Fr h₀ L g m → Fr g L' h₁ (bindL (envOfC qual scope L' f cdv).kindOf binds fun _ => none) → News g L' h₁ (cells ++ news) →
      CellsAre (bindC (envOfC qual scope L' f cdv).kindOf binds fun _ => none) (cellsFrom (L' + 1) scope.names []) cells → Below A base (env :: outer) g → K.In g → Top p loose mean mg mb g → (∀ p ∈ news, p.1 < L') → GSub s.heap g (news.map (·.1)) →
      wpAny (model prog w) (A.deeper (envOfC qual scope L' f cdv)) (execs body (envOfC qual scope L' f cdv))
        (fun fl s' => LeaveK h₀ L m g R (match fl with | .ret v => v | _ => .none) s')
        (fun e s' => wpAny (model prog w) (A.deeper (envOfC qual scope L' f cdv)) (leaving (envOfC qual scope L' f cdv) e) (fun _ s'' => R (.error e) s'') (fun e' s'' => R (.error e') s'') s')
        { s with heap := h₁, toks := tk })
    (hco : scope.isCoroutine = false) (hgen : scope.isGenerator = false) (hk : scope.kind = .function) : codeAny (model prog w) A (.call (.ref f) args) R s := by
  have X := X₀.keeps F.keep
  obtain ⟨FG, BG, st, lv⟩ := groundX (R := R) B F N hA hf hke
  refine codeAny_call_function hroom (X _ _ ho) rfl hco hgen rfl (codeRec_of X hcd) (hbind _ _ _ _ (wpAny_newFunctionEnv_cells hk (kindsX hkind _) fun env' he s' x => ?_))
  subst he
  have kept := x.toInCall.keep
  obtain ⟨h₁, tk, rfl, _⟩ := x.done
  refine ⟨(T.nolimit.keeps F.keep).keeps kept, codeAny_func (wpAny_mono ?_ (fun fl s' hl => lv _ _ hl) fun _ _ y => y)⟩
  obtain ⟨cells, NC, Y⟩ := Cl.news (h₀ := s.heap) (Nat.le_refl _) fun n c hm => ⟨x.cell n c (lookup_of_mem_nodup (cellsFrom_names scope.names 0 (s.heap.objs.size + 1) [] [] rfl ▸ hnd) hm), x.above n c hm⟩
  refine h _ s.heap.objs.size h₁ tk cells FG ⟨x.toInCall.ns, fun b o e => kept b o (of_hideAll _ e), Nat.le_of_eq (hideAll_size _ _)⟩ (fun q hq => ?_) Y BG (X₀.keeps st) (T.keeps st) (fun q hq => Heap.lt_size (N q hq).1) (fun b o e n => hideAll_get _ e n)
  rcases List.mem_append.mp hq with hq | hq
  · have z := NC q hq
    refine ⟨z.1, z.2.1, ?_⟩
    cases e : (hideAll s.heap (news.map (·.1))).get? q.1 with
    | none => rfl
    | some o => exact absurd (of_hideAll _ e) (by rw [z.2.2]; exact nofun)
  · exact ⟨kept _ _ (N q hq).1, Nat.ne_of_lt (Heap.lt_size (N q hq).1), hideAll_none _ (List.mem_map_of_mem hq)⟩
end

/-- a comprehension's turns by what holds between them: J of the turn's number, of the items, of the ledger -/
theorem rest_inv {prog : Program} {w : World} {A : Around} {h₀ : Heap} {L : Addr} {m : Str → Option Value} {env : Env} {elt : Expr} {x : Str} {scope : Scope} {cl : List (Str × Addr)} {s : Shared} {S : List (Addr × Obj) → Prop} {P : Nat → Value → Prop} {Fin : List Value → List (Addr × Obj) → Prop} {news : List (Addr × Obj)}
    (J : Nat → List Value → List (Addr × Obj) → Prop) {n : Nat}
    (turn : ∀ i ys nw v I oI C oC D m₂ h tk (E' : Value → Shared → Prop), i < n → P i v → J i ys nw → LCg.NsObj oC m₂ → m₂ x = some v → Fr h₀ L h m → News h₀ L h ((I, oI) :: (C, oC) :: (D, LCg.lst ys) :: nw) → LCg.Off3 I C D nw → ((@Ne Nat I C) ∧ (@Ne Nat I D) ∧ (@Ne Nat C D)) →
      wpAny (model prog w) A (eval elt (compEnvC scope cl C env)) (LCg.CompEnd h₀ L m { s with heap := h, toks := tk } I oI C oC D (LCg.lst ys) S (fun y nw' => J (i + 1) (ys ++ [y]) nw')) E' { s with heap := h, toks := tk })
    (fin : ∀ ys nw, J n ys nw → Fin ys nw) (start : J 0 [] news) : LCg.CompRest prog w A h₀ L m env elt x scope cl s S P Fin n 0 [] news := by
  have key : ∀ (j i : Nat) (ys : List Value) (nw : List (Addr × Obj)), i + j = n → J i ys nw → LCg.CompRest prog w A h₀ L m env elt x scope cl s S P Fin j i ys nw := by
    intro j
    induction j with
    | zero =>
      intro i ys nw e hj
      exact LCg.CompRest.zero (fin ys nw (by rw [show n = i by omega]; exact hj))
    | succ j ih =>
      intro i ys nw e hj
      refine LCg.CompRest.succ ?_
      intro v I oI C oC D m₂ h tk E' hv hC hx F N off ne
      refine wpAny_mono (turn i ys nw v I oI C oC D m₂ h tk E' (by omega) hv hj hC hx F N off ne) (fun y s₂ hq => ?_) fun _ _ e => e
      obtain ⟨h', tk', nw', e', F', N', off', hS, hj'⟩ := hq
      exact ⟨h', tk', nw', e', F', N', off', hS, ih (i + 1) _ nw' (by omega) hj'⟩
  exact key n 0 [] news (by omega) start
end Mine
end

section
open PySem PySem.W PyProof.Rows PySem.Calls PySem.Spec
namespace Mine

/-- the numbers that the law draws from -/
def Nums (ws : List Value) : Prop := ∃ ns, IntsAre ws ns ∧ 3 ≤ ns.length ∧ ns.length ≤ 27 ∧ ∀ n ∈ ns, 0 ≤ n ∧ n < 1000003

theorem news_upd {h₀ h h' : Heap} {L st : Addr} {o o' : Obj} {news : List (Addr × Obj)} {g : Obj → List (Addr × Obj)} (N : News h₀ L h news) (U : UpdF st o news g) (e : h'.get? st = some o') (k : Keep1 st h h') : News h₀ L h' (g o') := by
  obtain ⟨pre, post, e1, e2, h1, h2⟩ := U.split
  rw [e2]
  subst e1
  intro p hp
  have hst := N (st, o) (List.mem_append_right _ (.head _))
  rcases List.mem_append.mp hp with hp | hp
  · have z := N p (List.mem_append_left _ hp)
    exact ⟨k _ _ (h1 p hp) z.1, z.2⟩
  · rcases List.mem_cons.mp hp with rfl | hp
    · exact ⟨e, hst.2⟩
    · have z := N p (List.mem_append_right _ (.tail _ hp))
      exact ⟨k _ _ (h2 p hp) z.1, z.2⟩

theorem next_use {w : World} {p : Program} {loose : List Str} {mean : ExcName → Option Value} {mg mb : Str → Option Value} {dp un : Nat} {gd : Option (List Code)} {cn : Str} {cs : Scope} {a : Addr} {ccd : Value} {cl : List (Str × Addr)} {outer : List Env} {A₀ : Around} {base h₀ : Heap} {L : Addr} {m : Str → Option Value} {s : Shared}
    {st nums : Addr} {at_ : Int} {t tk : Tok} {ws : List Value} {many : Int} {news : List (Addr × Obj)} {g : Obj → List (Addr × Obj)}
    {Q E : Value → Shared → Prop}
    (B : Below A₀ base outer h₀) (F : Fr h₀ L s.heap m) (X : (hd.heap_39 w.params).In h₀) (N : News h₀ L s.heap news) (T : Top p loose mean mg mb h₀) (hk : cs.kind = .function)
    (U : UpdF st (stO nums at_ t) news g) (hn : (nums, listOf ws.toArray 0) ∈ news) (hne : @Ne Nat st nums) (hw : Nums ws) (h0 : 0 ≤ at_) (h1 : at_ < 1000) (hm : 0 < many) (hm' : many ≤ 12)
    (hdp : dp + 1 < recursionLimit) (hun : un + 8 < cLine)
    (hret : ∀ r t t' h' tk', Fr h₀ L h' m → News h₀ L h' (g (stO nums (at_ + 1) t')) → 0 ≤ r → r < many → Q (.int r t) { s with heap := h', toks := tk' }) :
    wpAny (model Challenge.rw_ez0344_01.row.prog w) (ktrTop dp un gd cn cs L a ccd cl outer) (call (.ref 298) [.ref st, .int many tk]) Q E s := by
  obtain ⟨ns, hi, hlo, hhi, hb⟩ := hw
  obtain ⟨pre, post, e1, _, _, _⟩ := U.split
  have hst : (st, stO nums at_ t) ∈ news := by rw [e1]; exact List.mem_append_right _ (.head _)
  refine next_c w p loose mean mg mb dp un gd cn cs a ccd cl outer A₀ base h₀ L m s st nums at_ t tk ws ns many Q E B F X (fun q hq => ?_) T hk hne hi hlo hhi hb h0 h1 hm hm' hdp hun fun r t t' h' tk' F' e k r0 r1 => ?_
  · rcases List.mem_cons.mp hq with rfl | hq
    · exact N _ hst
    · rw [List.mem_singleton.mp hq]; exact N _ hn
  · exact hret r t t' h' tk' F' (news_upd N U e k) r0 r1

def menu : List Str := ["a", "!", "x:y", "%21", "%2c", "%2C", "%25", "41", "%7E", "tag", "%25%32%31", ","]

def WrittenC (w : World) (p : Program) (loose : List Str) (mean : ExcName → Option Value) (mg mb : Str → Option Value) : Prop :=
  ∀ (dp un : Nat) (gd : Option (List Code)) (cn : Str) (cs : Scope) (a : Addr) (ccd : Value) (cl : List (Str × Addr)) (outer : List Env) (A₀ : Around) (base h₀ : Heap) (L : Addr) (m : Str → Option Value) (s : Shared)
    (st nums : Addr) (at_ : Int) (t : Tok) (ws : List Value)
    (Q E : Value → Shared → Prop),
    Below A₀ base outer h₀ → Fr h₀ L s.heap m → (hd.heap_39 w.params).In h₀ → News h₀ L s.heap [(st, stO nums at_ t), (nums, listOf ws.toArray 0)] → Top p loose mean mg mb h₀ → cs.kind = .function →
    @Ne Nat st nums → Nums ws → 0 ≤ at_ → at_ < 900 →
    dp + 2 < recursionLimit → un + 16 < cLine →
    (∀ l vs ps k t' h' tk', Fr h₀ L h' m → h'.get? st = some (stO nums k t') → Keep1 st s.heap h' → at_ ≤ k → k ≤ at_ + 6 → h'.get? l = some (LCg.lst vs) → s.heap.get? l = none → StrsAre vs ps → (∀ q ∈ ps, q ∈ menu) → ps.length ≤ 5 → Q (.ref l) { s with heap := h', toks := tk' }) →
    wpAny (model Challenge.rw_ez0344_01.row.prog w) (ktrTop dp un gd cn cs L a ccd cl outer) (call (.ref 308) [.ref st]) Q E s

local macro_rules | `(tactic| walk_at "call ref") => `(tactic| (k_here; (with_reducible show wpAny _ _ (call (Value.ref 298) _ _) _ _ _); k_dflt ((with_unfolding_all refine' next_use ?k1 ?k2 ?k3 ?k4 ?k5 ?kK ?kU ?kn ?kne ?kw ?k0 ?k9 ?km ?km' ?kd ?ku ?_); (case k1 => k_asm); (case k2 => k_asm); (case k3 => k_asm); (case k4 => k_asm); (case k5 => k_asm); (case kK => first | exact rfl | assumption); (case kU => k_updF); (case kn => k_mem); (case kne => assumption); (case kw => assumption); (case k0 => omega); (case k9 => omega); (case km => decide); (case km' => decide); (case kd => ktr_room); (case ku => ktr_units); intro r' t' t'' h' tk' F' N' r0' r1'; (try dsimp only at N'); (try dsimp only); (try k_fold))))

def WJ (g : Obj → List (Addr × Obj)) (nums : Addr) (at_ : Int) (i : Nat) (ys : List Value) (nw : List (Addr × Obj)) : Prop :=
  ∃ k t ps, nw = g (stO nums k t) ∧ at_ ≤ k ∧ k ≤ at_ + (i : Int) ∧ StrsAre ys ps ∧ (∀ q ∈ ps, q ∈ menu) ∧ ps.length = i

theorem written_rest {prog : Program} {w : World} {A : Around} {h₀ : Heap} {L : Addr} {m : Str → Option Value} {env : Env} {elt : Expr} {x : Str} {scope : Scope} {cl : List (Str × Addr)} {s : Shared} {S : List (Addr × Obj) → Prop} {Fin : List Value → List (Addr × Obj) → Prop} {news : List (Addr × Obj)}
    {st nums : Addr} {at_ : Int} {t : Tok} {g : Obj → List (Addr × Obj)} {n : Nat} (_hne : @Ne Nat st nums) (U : UpdF st (stO nums at_ t) news g) (h5 : n ≤ 5)
    (turn : ∀ (i : Nat) (ys : List Value) (k : Int) (t' : Tok) (ps : List Str) (u : Tok) I oI C oC D m₂ h tk (E' : Value → Shared → Prop), i < n → at_ ≤ k → k ≤ at_ + (i : Int) → StrsAre ys ps → (∀ q ∈ ps, q ∈ menu) → ps.length = i → LCg.NsObj oC m₂ → m₂ x = some (.int (0 + (i : Int)) u) → Fr h₀ L h m → News h₀ L h ((I, oI) :: (C, oC) :: (D, LCg.lst ys) :: g (stO nums k t')) → LCg.Off3 I C D (g (stO nums k t')) → ((@Ne Nat I C) ∧ (@Ne Nat I D) ∧ (@Ne Nat C D)) →
      wpAny (model prog w) A (eval elt (compEnvC scope cl C env)) (LCg.CompEnd h₀ L m { s with heap := h, toks := tk } I oI C oC D (LCg.lst ys) S (fun y nw' => WJ g nums at_ (i + 1) (ys ++ [y]) nw')) E' { s with heap := h, toks := tk })
    (fin : ∀ ys k t' ps, at_ ≤ k → k ≤ at_ + 5 → StrsAre ys ps → (∀ q ∈ ps, q ∈ menu) → ps.length ≤ 5 → Fin ys (g (stO nums k t'))) : LCg.CompRest prog w A h₀ L m env elt x scope cl s S (fun i v => ∃ t, v = .int (0 + (i : Int)) t) Fin n 0 [] news := by
  refine rest_inv (WJ g nums at_) (fun i ys nw v I oI C oC D m₂ h tk E' hi hv hJ hC hx F N off ne => ?_) (fun ys nw hJ => ?_) ?_
  · obtain ⟨k, t', ps, rfl, h1, h2, h3, h4, h5⟩ := hJ
    obtain ⟨u, rfl⟩ := hv
    exact turn i ys k t' ps u I oI C oC D m₂ h tk E' hi h1 h2 h3 h4 h5 hC hx F N off ne
  · obtain ⟨k, t', ps, rfl, h1, h2, h3, h4, h5⟩ := hJ
    exact fin ys k t' ps h1 (by omega) h3 h4 (by omega)
  · obtain ⟨pre, post, e1, e2, _, _⟩ := U.split
    exact ⟨at_, t, [], by rw [e1, e2], by omega, by omega, .nil, nofun, rfl⟩

theorem strs_snoc {y : Str} {t : Tok} : ∀ {vs : List Value} {ps : List Str}, StrsAre vs ps → StrsAre (vs ++ [.str y t]) (ps ++ [y])
  | _, _, .nil => .cons y t .nil
  | _, _, .cons z u r => .cons z u (strs_snoc r)
theorem menu_at {r : Int} (h0 : 0 ≤ r) (h1 : r < 12) : menu.getD r.toNat Str.empty ∈ menu := by
  have h : r.toNat < menu.length := by show r.toNat < 12; omega
  rw [List.getD_eq_getElem?_getD, List.getElem?_eq_getElem h]
  exact List.getElem_mem h
theorem wj_end {g : Obj → List (Addr × Obj)} {nums : Addr} {at_ k r : Int} {i : Nat} {ys : List Value} {ps : List Str} {t t' : Tok} (h1 : at_ ≤ k) (h2 : k ≤ at_ + (i : Int)) (hS : StrsAre ys ps) (hM : ∀ q ∈ ps, q ∈ menu) (hP : ps.length = i) (h0 : 0 ≤ r) (hr : r < 12) :
    WJ g nums at_ (i + 1) (ys ++ [.str (menu.getD r.toNat Str.empty) t]) (g (stO nums (k + 1) t')) :=
  ⟨k + 1, t', ps ++ [menu.getD r.toNat Str.empty], rfl, by omega, by omega, strs_snoc hS, fun q hq => by
    rcases List.mem_append.mp hq with hq | hq
    · exact hM q hq
    · rw [List.mem_singleton.mp hq]; exact menu_at h0 hr, by rw [List.length_append, hP]; rfl⟩
theorem new_two {h g h' : Heap} {L' l st nums : Addr} {o o1 o2 : Obj} {news : List (Addr × Obj)} (G : GSub h g ([(st, o1), (nums, o2)].map (·.1))) (N : News g L' h' news) (hm : (l, o) ∈ news) (h1 : @Ne Nat st l) (h2 : @Ne Nat nums l) : h.get? l = none := by
  cases e : h.get? l with
  | none => rfl
  | some x =>
    have z := G l x e (by simp [Ne.symm h1, Ne.symm h2])
    rw [(N _ hm).2.2] at z; cases z

theorem range_small {b : Int} (h0 : 0 ≤ b) (h : b < 1000) : Builtin.Range.small 0 b 1 = true := small_one (by decide) (by decide) (by omega) (by omega)
theorem range_size {b : Int} (h0 : 0 ≤ b) : Builtin.Range.rangeSize 0 b 1 = (b.toNat : Int) := by rw [rangeSize_nat, Int.sub_zero]

local macro_rules | `(tactic| walk_at "CompSrc") => `(tactic| (k_here; k_dflt ((with_unfolding_all refine' LCg.CompSrc.range ?k1 ?k2 ?k3 ?k4 (range_small ?k5 ?k6) (range_size ?k7) ?k8 ?_); (case k1 => rfl); (case k2 => k_asm); (case k3 => k_asm); (case k4 => assumption); (case k5 => omega); (case k6 => omega); (case k7 => omega); (case k8 => (rw [PySem.sizeLine_eq]; omega)); (intro g'); (refine' written_rest ?kne ?kU ?k5 ?_ ?_); (case kne => with_reducible assumption); (case kU => k_updF); (case k5 => omega); (focus (intro i' ys' k' t' ps' u' I' oI' C' oC' D' m₂' h' tk' E' hi' hk1 hk2 hS' hM' hP' hC' hx' F' N' off' ne'; (try dsimp only at N' off' ⊢); (try simp only [LCg.Off3, and_true] at off'); (try k_fold))); (rotate_left); (intro ys' k' t' ps' hk1 hk2 hS' hM' hP'; (try dsimp only)); rotate_right)))

set_option maxHeartbeats 4000000 in
theorem written_c (w : World) (p : Program) (loose : List Str) (mean : ExcName → Option Value) (mg mb : Str → Option Value) : WrittenC w p loose mean mg mb := by
  intro dp un gd cn cs a ccd cl outer A₀ base h₀ L m s st nums at_ t ws Q E B F X N T hk hne hw hat hat' hdp hun hret
  have hfill : PySem.Challenge.rw_ez0344_01.prog = PySem.Challenge.rw_ez0344_01.prog := rfl
  revert X hfill
  k_fill
  intro X hfill
  clear hfill
  refine wpAny_call ?_
  k_dflt (refine' code_cellsG ?k1 ?k2 ?k3 ?k4 ?k5 ?kA ?kF ?kK ?k6 ?k7 ?k8 ?k9 ?kB ?kD ?_ ?c2 ?c3 ?c4; (case kA => exact rfl); (case kF => exact rfl); (case kK => assumption); (case k1 => k_asm); (case k2 => k_asm); (case k3 => k_asm); (case k4 => k_asm); (case k5 => k_asm); (case k6 => k_is); (case k7 => k_is); (case k8 => ktr_room); (case k9 => exact BindsTo.of_eq rfl); (case kB => exact rfl); (case kD => decide +kernel); (case c2 => exact rfl); (case c3 => exact rfl); (case c4 => exact rfl); k_whole; intro g' L' h' tk' cells' FG' F' N' Y' B' X' T' l1 kG'; (try k_lt l1); k_cells Y'; (try simp only [List.cons_append, List.nil_append] at N'); (try dsimp only); (try k_fold))
  k_steps
  · exact wj_end (by assumption) (by assumption) (by assumption) (by assumption) (by assumption) (by assumption) (by assumption)
  · rename GSub _ _ _ => kG9
    rename News _ _ _ _ => kN9
    refine hret _ _ _ _ _ _ _ (by assumption) (kN9 (st, _) (by k_mem)).1 (keep_two kG9 (by assumption) (N (nums, _) (by k_mem)).1 (kN9 (nums, _) (by k_mem)).1) (by omega) (by omega) (kN9 (_, LCg.lst _) (by k_mem)).1 (new_two kG9 (by assumption) (o := LCg.lst _) (by k_mem) (by omega) (by omega)) (by assumption) (by assumption) (by assumption)
end Mine
end

section
open PySem PySem.W PyProof.Rows PySem.Calls PySem.Spec
namespace Mine

/-- all that stood stands -/
def Keep0 (h h' : Heap) : Prop := ∀ b o, h.get? b = some o → h'.get? b = some o

/-- what one part tells -/
def toldP (q : Str) : Str :=
  if q = Str.ofString "%21" then "!" else if q = Str.ofString "%2c" then "," else if q = Str.ofString "%2C" then "," else if q = Str.ofString "%25" then "%" else if q = Str.ofString "%7E" then "~" else if q = Str.ofString "%25%32%31" then "%21" else q

/-- parts, joined -/
abbrev joinS (ps : List Str) : Str := Txt.join (Str.ofString "") ps

def ToldC (w : World) (p : Program) (loose : List Str) (mean : ExcName → Option Value) (mg mb : Str → Option Value) : Prop :=
  ∀ (dp un : Nat) (gd : Option (List Code)) (cn : Str) (cs : Scope) (a : Addr) (ccd : Value) (cl : List (Str × Addr)) (outer : List Env) (A₀ : Around) (base h₀ : Heap) (L : Addr) (m : Str → Option Value) (s : Shared)
    (l : Addr) (vs : List Value) (ps : List Str)
    (Q E : Value → Shared → Prop),
    Below A₀ base outer h₀ → Fr h₀ L s.heap m → (hd.heap_39 w.params).In h₀ → News h₀ L s.heap [(l, LCg.lst vs)] → Top p loose mean mg mb h₀ → cs.kind = .function →
    StrsAre vs ps → (∀ q ∈ ps, q ∈ menu) → ps.length ≤ 5 →
    dp + 1 < recursionLimit → un + 8 < cLine →
    (∀ t h' tk', Fr h₀ L h' m → Keep0 s.heap h' → Q (.str (joinS (ps.map toldP)) t) { s with heap := h', toks := tk' }) →
    wpAny (model Challenge.rw_ez0344_01.row.prog w) (ktrTop dp un gd cn cs L a ccd cl outer) (call (.ref 313) [.ref l]) Q E s

theorem strs_at {vs : List Value} {ps : List Str} (h : StrsAre vs ps) : ∀ (i : Nat) (v : Value), vs[i]? = some v → ∃ q t, ps[i]? = some q ∧ v = .str q t := by
  induction h with
  | nil => intro i v e; simp at e
  | cons x t _ ih =>
    intro i v e
    cases i with
    | zero => simp only [List.getElem?_cons_zero, Option.some.injEq] at e; exact ⟨x, t, rfl, e.symm⟩
    | succ i => rw [List.getElem?_cons_succ] at e; rw [List.getElem?_cons_succ]; exact ih i v e

theorem menu_cases {q : Str} (h : q ∈ menu) : q = Str.ofString "a" ∨ q = Str.ofString "!" ∨ q = Str.ofString "x:y" ∨ q = Str.ofString "%21" ∨ q = Str.ofString "%2c" ∨ q = Str.ofString "%2C" ∨ q = Str.ofString "%25" ∨ q = Str.ofString "41" ∨ q = Str.ofString "%7E" ∨ q = Str.ofString "tag" ∨ q = Str.ofString "%25%32%31" ∨ q = Str.ofString "," := by
  simpa [menu] using h
theorem sum_le {f : Str → Nat} : ∀ {ps : List Str}, (∀ q ∈ ps, f q ≤ 9) → (ps.map f).sum ≤ 9 * ps.length
  | [], _ => Nat.le_refl _
  | q :: r, h => by
    have h1 := h q (.head _)
    have h2 := sum_le (f := f) (ps := r) fun q hq => h q (.tail _ hq)
    simp only [List.map_cons, List.sum_cons, List.length_cons]
    omega
theorem menu_len : ∀ q ∈ menu, q.length ≤ 9 := by decide +kernel
theorem told_len : ∀ q ∈ menu, (toldP q).length ≤ 9 := by decide +kernel
theorem join_fits {ps : List Str} (hm : ∀ q ∈ ps, q ∈ menu) (h5 : ps.length ≤ 5) : (ps.map (·.length)).sum + ps.length * (Str.ofString "").length ≤ 16777216 := by
  have h := sum_le (f := (·.length)) fun q hq => menu_len q (hm q hq)
  have h0 : (Str.ofString "").length = 0 := by decide +kernel
  rw [h0]; omega
theorem told_fits {ps : List Str} (hm : ∀ q ∈ ps, q ∈ menu) (h5 : ps.length ≤ 5) : ((ps.map toldP).map (·.length)).sum + (ps.map toldP).length * (Str.ofString "").length ≤ 16777216 := by
  have h := sum_le (f := fun q => (toldP q).length) fun q hq => told_len q (hm q hq)
  have h0 : (Str.ofString "").length = 0 := by decide +kernel
  rw [h0, List.map_map]
  exact Nat.le_trans (Nat.le_trans (Nat.le_of_eq (by rw [Nat.mul_zero]; rfl)) h) (by omega)
theorem flat_str {v : Value} {d : PyData} {x : Str} (h : PyProof.V.Flat v d) (e : d = .str x) : ∃ t, v = .str x t := by
  subst e
  cases h default
  exact ⟨_, rfl⟩

theorem keep_one {h g h' : Heap} {L' l : Addr} {m' : Str → Option Value} {o : Obj} (G : GSub h g ([(l, o)].map (·.1))) (F' : Fr g L' h' m') (e : h.get? l = some o) (e' : h'.get? l = some o) : Keep0 h h' := by
  intro b ob ho
  by_cases hn : b = l
  · subst hn; rw [e] at ho; rw [e']; exact ho
  · exact F'.keep b ob (G b ob ho (by simp [hn]))

theorem told_look {q : Str} (h : q ∈ menu) (t1 u1 t2 u2 t3 u3 t4 u4 t5 u5 t6 u6 : Tok) :
    (PySem.Spec.lookup (PyData.str q) (strData [(.str (Str.ofString "%21") t1, .str (Str.ofString "!") u1), (.str (Str.ofString "%2c") t2, .str (Str.ofString ",") u2), (.str (Str.ofString "%2C") t3, .str (Str.ofString ",") u3), (.str (Str.ofString "%25") t4, .str (Str.ofString "%") u4), (.str (Str.ofString "%7E") t5, .str (Str.ofString "~") u5), (.str (Str.ofString "%25%32%31") t6, .str (Str.ofString "%21") u6)])).getD (PyData.str q) = PyData.str (toldP q) := by
  rcases menu_cases h with rfl | rfl | rfl | rfl | rfl | rfl | rfl | rfl | rfl | rfl | rfl | rfl <;> kernel_rfl

def TEnd (news : List (Addr × Obj)) (q : Str) (y : Value) (nw : List (Addr × Obj)) : Prop := nw = news ∧ ∃ t, y = .str (toldP q) t

def TJ (news : List (Addr × Obj)) (ps : List Str) (i : Nat) (ys : List Value) (nw : List (Addr × Obj)) : Prop := nw = news ∧ StrsAre ys ((ps.take i).map toldP)

theorem told_rest {prog : Program} {w : World} {A : Around} {h₀ : Heap} {L : Addr} {m : Str → Option Value} {env : Env} {elt : Expr} {x : Str} {scope : Scope} {cl : List (Str × Addr)} {s : Shared} {S : List (Addr × Obj) → Prop} {Fin : List Value → List (Addr × Obj) → Prop} {news : List (Addr × Obj)}
    {vs : List Value} {ps : List Str} (hv : StrsAre vs ps) (hm : ∀ q ∈ ps, q ∈ menu)
    (turn : ∀ (q : Str) (u : Tok) I oI C oC D m₂ ys h tk (E' : Value → Shared → Prop), q ∈ menu → LCg.NsObj oC m₂ → m₂ x = some (.str q u) → Fr h₀ L h m → News h₀ L h ((I, oI) :: (C, oC) :: (D, LCg.lst ys) :: news) → LCg.Off3 I C D news → ((@Ne Nat I C) ∧ (@Ne Nat I D) ∧ (@Ne Nat C D)) →
      wpAny (model prog w) A (eval elt (compEnvC scope cl C env)) (LCg.CompEnd h₀ L m { s with heap := h, toks := tk } I oI C oC D (LCg.lst ys) S (fun y nw' => TEnd news q y nw')) E' { s with heap := h, toks := tk })
    (fin : ∀ ys, StrsAre ys (ps.map toldP) → Fin ys news) : LCg.CompRest prog w A h₀ L m env elt x scope cl s S (fun i v => vs.toArray[i]? = some v) Fin vs.toArray.size 0 [] news := by
  refine rest_inv (TJ news ps) (fun i ys nw v I oI C oC D m₂ h tk E' hi hv' hJ hC hx F N off ne => ?_) (fun ys nw hJ => ?_) ⟨rfl, .nil⟩
  · obtain ⟨rfl, hJ⟩ := hJ
    obtain ⟨q, u, hq, rfl⟩ := strs_at hv i v (by simpa using hv')
    refine wpAny_mono (turn q u I oI C oC D m₂ ys h tk E' (hm q (List.mem_of_getElem? hq)) hC hx F N off ne) (fun y s₂ hh => ?_) fun _ _ e => e
    obtain ⟨h', tk', nw', e', F', N', off', hS, e1, t, e2⟩ := hh
    refine ⟨h', tk', nw', e', F', N', off', hS, e1, ?_⟩
    rw [List.take_add_one, hq, e2]
    simpa using strs_snoc hJ
  · obtain ⟨rfl, hJ⟩ := hJ
    have e : vs.toArray.size = ps.length := by rw [List.size_toArray]; exact hv.length
    rw [e, List.take_length] at hJ
    exact fin ys hJ

-- a line that never holds: the walk keeps its table of lines as long as their number stays the same, and the text before has as many
local macro_rules | `(tactic| walk_at "Mine told") => `(tactic| fail "no line")

local macro_rules | `(tactic| walk_at "call builtin:str.join") => `(tactic| (k_here; k_dflt (((refine join_list (News.isList (by k_asm) (by k_mem)) (by assumption) (told_fits (by assumption) (by assumption)) ?_); intro _ _))))

local macro_rules | `(tactic| walk_at "CompSrc") => `(tactic| (k_here; k_dflt (((with_unfolding_all refine' LCg.CompSrc.ledger ?k1 ?k2 ?k3 ?k4 ?k8 ?_)); (case k1 => rfl); (case k2 => k_asm); (case k3 => k_asm); (case k4 => k_mem); ((case k8 => (rw [PySem.sizeLine_eq, List.size_toArray]; have h9 := StrsAre.length (by assumption); omega))); (intro g'); ((refine' told_rest ?kS ?kM ?_ ?_)); (case kS => assumption); (case kM => assumption); ((focus (intro q' u' I' oI' C' oC' D' m₂' ys' h' tk' E' hq' hC' hx' F' N' off' ne'; (try dsimp only at N' off' ⊢); (try simp only [LCg.Off3, and_true] at off'); (try k_fold)))); (rotate_left); (intro ys' hS'; (try dsimp only)); rotate_right)))

set_option maxHeartbeats 4000000 in
theorem told_c (w : World) (p : Program) (loose : List Str) (mean : ExcName → Option Value) (mg mb : Str → Option Value) : ToldC w p loose mean mg mb := by
  intro dp un gd cn cs a ccd cl outer A₀ base h₀ L m s l vs ps Q E B F X N T hk hS hM hP hdp hun hret
  have hfill : PySem.Challenge.rw_ez0344_01.prog = PySem.Challenge.rw_ez0344_01.prog := rfl
  revert X hfill
  k_fill
  intro X hfill
  clear hfill
  refine wpAny_call ?_
  k_dflt (refine' code_cellsG ?k1 ?k2 ?k3 ?k4 ?k5 ?kA ?kF ?kK ?k6 ?k7 ?k8 ?k9 ?kB ?kD ?_ ?c2 ?c3 ?c4; (case kA => exact rfl); (case kF => exact rfl); (case kK => assumption); (case k1 => k_asm); (case k2 => k_asm); (case k3 => k_asm); (case k4 => k_asm); (case k5 => k_asm); (case k6 => k_is); (case k7 => k_is); (case k8 => ktr_room); (case k9 => exact BindsTo.of_eq rfl); (case kB => exact rfl); (case kD => decide +kernel); (case c2 => exact rfl); (case c3 => exact rfl); (case c4 => exact rfl); k_whole; intro g' L' h' tk' cells' FG' F' N' Y' B' X' T' l1 kG'; (try k_lt l1); k_cells Y'; (try simp only [List.cons_append, List.nil_append] at N'); (try dsimp only); (try k_fold))
  k_steps
  · (with_reducible rename PyProof.V.Flat _ _ => h9)
    (with_reducible rename Membership.mem menu _ => hq9)
    exact ⟨rfl, flat_str h9 (told_look hq9 _ _ _ _ _ _ _ _ _ _ _ _)⟩
  · rename GSub _ _ _ => kG9
    rename News _ _ _ _ => kN9
    exact hret _ _ _ (by assumption) (keep_one kG9 (by assumption) (N (l, _) (by k_mem)).1 (kN9 (l, _) (by k_mem)).1)
end Mine
end

section
open PySem PySem.W PyProof.Rows PySem.Calls PySem.Spec
namespace Mine
open Builtin Builtin.ObjectAttr

section
variable {prog : Program} {w : World} {A : Around} {E : Value → Shared → Prop} {s : Shared} {K : Frag} {x C : Addr} {ox : Obj} {od : Option Obj} {name : Str} {expr : Bool} {Q : Value → Shared → Prop}

/-- an own object without the attribute: AttributeError -/
theorem get_miss (X : K.In s.heap) (I : InstAt s.heap x ox C od) (hga : findIn K (.ref C) "__getattribute__" = some (some (.builtin "object.__getattribute__")))
    (hf : findObj K C od name = some .missing) (hk : findIn K (.ref C) "__getattr__" = some none) {cd : ClassData} (hc : clsIn K C = some cd) (hcn1 : cd.name.cps.foldl (fun k c => k + (Str.utf8Of c).length) 0 ≤ 100) (hcn2 : cd.name.toString.length ≤ 100) (hsz : name.length ≤ 1000) (hA : A.handled = none)
    (h : ∀ h' tk e, Heap.NewAttrErr s.heap h' e (.ref x) name → E (.ref e) { s with heap := h', toks := tk }) : wpAny (model prog w) A (getAttr (.ref x) name expr) Q E s := by
  refine get_open X I hga ?_
  obtain ⟨hh', gg, d, t, os⟩ := s
  have L0 := I.type (M := model prog w)
  have L1 := looks_find (M := model prog w) X I hf
  have L2 := looks_findIn (M := model prog w) X hk
  have L3 := looks_clsIn (M := model prog w) X hc
  refine wpAny_bind (wpAny_pure (wpAny_bind (L0.at (wpAny_bind (L1.at (wpAny_bind (L2.at ?_)))))))
  show wpAny _ _ (noSuchAttribute (.ref x) name) _ _ _
  unfold noSuchAttribute
  refine wpAny_bind ?_
  unfold typeNameOfCut shownTypeOf
  refine wpAny_bind (wpAny_bind (L0.at ?_))
  refine wpAny_pure ?_
  show wpAny _ _ (typeNameCut 100 (.ref C)) _ _ _
  unfold typeNameCut
  refine wpAny_bind (L3.at ?_)
  dsimp only
  rw [if_pos hcn1]
  refine wpAny_pure ?_
  refine wpAny_raiseAttrError hA (fun h' tk e hx => ?_) ?_
  · dsimp only at hx ⊢
    obtain ⟨t', u', he⟩ := hx.there
    have f1 := sub_AttributeError
    have hT : Looks (model prog w) h' (typeOf (.ref e)) (.type "AttributeError") := (Looks.ld he).andThen .now
    unfold noteIf
    rw [if_pos rfl]
    unfold noteAttr
    dsimp only
    refine wpAny_bind ?_
    unfold lacksNameAndObj
    dsimp only
    refine wpAny_bind ?_
    unfold isInstance
    refine wpAny_bind (hT.at ?_)
    rw [f1]
    refine wpAny_pure ?_
    simp only [Bool.not_true, Bool.false_eq_true, if_false]
    refine wpAny_bind (wpAny_load he ?_)
    dsimp only
    refine wpAny_pure ?_
    simp only [Bool.false_eq_true, if_false]
    exact wpAny_pure (h _ _ _ hx)
  · rw [sizeLine_eq]
    rw [strLen_append, strLen_append]
    have e1 : (Str.ofString "'").length = 1 := by decide +kernel
    rw [e1, PySem.ofString_length]
    have e2 : (toString "'" ++ toString cd.name.toString ++ toString "' object has no attribute '" : String).length ≤ 130 := by
      show ("'" ++ cd.name.toString ++ "' object has no attribute '" : String).length ≤ 130
      rw [String.length_append, String.length_append]
      have e3 : ("'" : String).length = 1 := by decide +kernel
      have e4 : ("' object has no attribute '" : String).length = 27 := by decide +kernel
      omega
    omega
end
end Mine
end

section
open PySem PySem.W PyProof.Rows PySem.Calls PySem.Spec
namespace Mine
section
variable {prog : Program} {w : World} {A₀ : Around} {E : Value → Shared → Prop} {s' : Shared} {base g g₀ G : Heap} {outer : List Env} {L a e : Addr} {m : Str → Option Value} {name : Str} {scope : Scope} {cd : Value}
  {b₀ : Stmt} {suite : List Stmt} {pos np : Pos} {rest : List ExceptHandler} {Q : Flow → Shared → Prop} {news : List (Addr × Obj)} {KF : Frag}
  {p : Program} {loose : List Str} {mean : ExcName → Option Value} {mg mb : Str → Option Value} {x : Str} {X T' : String}

/-- an exception just made in the frame, caught by the frame's own try, whatever frames stand below -/
theorem caught_own (hx : Heap.NewExcOf G s'.heap e X) (h0 : ∃ ob vs a0, s'.heap.get? e = some ob ∧ ob.data = .fields vs ∧ vs[0]? = some a0) (F : Fr g L G m) (N : News g L G news) (K : Below A₀ base outer g) (XB : KF.In base) (TB : Top p loose mean mg mb base)
    (D : KtsDicts (outer.filterMap (·.frame)) g) (T0 : KtsTurn (outer.filterMap (·.frame)) g₀ g)
    (ex : nsIn KF mainGlobals x = some none) (hv : bootBuiltins x = some (.type T')) (hn' : x ≠ "__name__")
    (hexc : isSubtype (.type T') (.type "BaseException") = pure true) (hnt : isSubtype (.type ((Manifest.find? T').elim "type" fun y => y.metatype)) (.type "tuple") = pure false) (hsub : isSubtype (.type X) (.type T') = pure true)
    (k : ∀ h' g', KtsTurn (outer.filterMap (·.frame)) g₀ g' → Fr g' L h' m → News g' L h' news → Below A₀ base outer g' → KF.In g' → Top p loose mean mg mb g' → KtsDicts (outer.filterMap (·.frame)) g' →
      wpAny (model prog w) ((A₀.deeper (envOf name scope L a cd)).mark (some (.ref e))) (execs (b₀ :: suite) (envOf name scope L a cd)) Q E { s' with heap := h' })
    (hk : scope.kind = .function := by rfl) (hxk : (envOf name scope L a cd).kindOf x = some .globalImplicit := by rfl) (hd : (x == ("__debug__" : Str)) = false := by decide)
    (hE : PassesOwnAt (model prog w) ((A₀.deeper (envOf name scope L a cd)).mark (some (.ref e))) (A₀.deeper (envOf name scope L a cd)) (envOf name scope L a cd) E := by passes_own) :
    wpAny (model prog w) (A₀.deeper (envOf name scope L a cd)) (noteFrame (.ref e) (envOf name scope L a cd))
      (fun _ s₂ => wpAny (model prog w) (A₀.deeper (envOf name scope L a cd)) (setFlight (.ref e) none) (fun _ s₃ =>
        wpAny (model prog w) (A₀.deeper (envOf name scope L a cd)) (handleBy (.ref e) (envOf name scope L a cd) (.ExceptHandler (some (.Name x np)) none (b₀ :: suite) pos :: rest)) Q E s₃) E s₂) E s' := by
  have K' := K.push (name := name) (a := a) (cd := cd) F hk
  have hin : ∀ env ∈ (envOf name scope L a cd :: outer), ∀ b, env.frame = some b → b ∈ (envOf name scope L a cd :: outer).filterMap (·.frame) := fun env he b hb => List.mem_filterMap.mpr ⟨env, he, hb⟩
  -- the ground: what stood, less the frames
  have hB : base.StaysIn (hideAll G ((envOf name scope L a cd :: outer).filterMap (·.frame))) := fun b o q => hideAll_get _ (K'.stays b o q) fun hm => by
    rw [(K'.frames.mem hm).1] at q; cases q
  have hBG : ∀ b o, G.get? b = some o → b ∉ (envOf name scope L a cd :: outer).filterMap (·.frame) → (hideAll G ((envOf name scope L a cd :: outer).filterMap (·.frame))).get? b = some o := fun b o q nm => hideAll_get _ q nm
  have hLm : L ∈ (envOf name scope L a cd :: outer).filterMap (·.frame) := List.mem_filterMap.mpr ⟨_, .head _, rfl⟩
  have hL : (hideAll G ((envOf name scope L a cd :: outer).filterMap (·.frame))).get? L = none := hideAll_none _ hLm
  have hl : ∀ q ∈ news, (hideAll G ((envOf name scope L a cd :: outer).filterMap (·.frame))).get? q.1 = some q.2 ∧ g.get? q.1 = none := fun q hq => by
    refine ⟨hideAll_get _ (N q hq).1 fun hm => ?_, (N q hq).2.2⟩
    rcases kts_mem hm with z | z
    · exact (N q hq).2.1 z
    · obtain ⟨_, o, ho, _⟩ := K.frames.mem z
      rw [(N q hq).2.2] at ho; cases ho
  obtain ⟨ob, vs, he, hcls, hdt, h1⟩ := hx.there
  obtain ⟨ob', vs', a0, he', hdt', h00⟩ := h0
  rw [he] at he'
  obtain rfl := Option.some.inj he'
  rw [hdt] at hdt'
  injection hdt' with hvs
  subst hvs
  have hen : (hideAll G ((envOf name scope L a cd :: outer).filterMap (·.frame))).get? e = none := by
    cases q : (hideAll G ((envOf name scope L a cd :: outer).filterMap (·.frame))).get? e with
    | none => rfl
    | some o => have := of_hideAll _ q; rw [hx.new] at this; cases this
  unfold noteFrame
  simp only [show (envOf name scope L a cd).frame = some L from rfl]
  refine wpAny_bind (wpAny_field he hdt h1 ?_)
  rw [if_neg (by decide)]
  refine wpAny_entryW (base := hideAll G ((envOf name scope L a cd :: outer).filterMap (·.frame))) K'.stack ((funFrames_hide K'.frames hin).of_keeps fun b o hb _ => ⟨o, hx.keeps b o hb, rfl⟩) rfl he (fun b o hb => hx.keeps b o (of_hideAll _ hb)) hen hdt (Array.getElem?_eq_some_iff.mp h1).1 h00 fun h₄ hN => ?_
  rw [hcls] at hN
  obtain ⟨n1, n2, n3, n4⟩ := hN
  have hsm₄ : G.UpToSlots h₄ := (Heap.UpToSlots.of_keeps hx.keeps).trans n4
  have hheld₄ : Heap.HeldW (hideAll G ((envOf name scope L a cd :: outer).filterMap (·.frame))) (envOf name scope L a cd :: outer) e (.type X) a0 L h₄ := ⟨n1, hen, n2, n3⟩
  refine wpAny_landsW hheld₄ fun h₅ hheld hsm₅' => ?_
  have hsm₅ := hsm₄.trans hsm₅'
  obtain ⟨g₅, T₅, F₅, K₅⟩ := kts_ground K F hBG hheld.1 hsm₅
  have X₅ : KF.In g₅ := XB.keeps K₅.stays
  have P₅ : TopRead p loose mg mb g₅ := topRead_of (TB.keeps K₅.stays)
  obtain ⟨ob5, hob, hobc⟩ := hheld.there
  refine wpAny_handleBy_builtin (X := X) (T := T') (b := true) hexc hnt hsub (name_B F₅ X₅ P₅ ex hv hn' ⟨rfl, ⟨ob5, hob, hobc⟩, ?_⟩ hk hxk hd)
  refine lands_againW hheld fun h₆ hfl₆ hsm₆ => ?_
  obtain ⟨g₆, T₆, F₆, K₆⟩ := kts_ground K F hBG hfl₆.1 (hsm₅.trans hsm₆)
  exact wpAny_passesOwnAt hE (k h₆ g₆ (T0.trans T₆) F₆ (fun q hq => ⟨hfl₆.1 _ _ (hl q hq).1, (fun z => by have := (hl q hq).1; rw [z, hL] at this; cases this), T₆.none_ _ (hl q hq).2⟩) K₆ (XB.keeps K₆.stays) (TB.keeps K₆.stays) (D.turn T₆))
end
end Mine
end

section
open PySem PySem.W PyProof.Rows PySem.Calls PySem.Spec
namespace Mine
open Builtin Builtin.ObjectAttr

theorem findObj_missing {K : Frag} {C : Addr} {es : List DictEntry} {n : Nat} {name : Str} (hh : hasDictIn K C = true) (ha : findIn K (.ref C) name = some none) (hl : getL name es = some none) (hcp : copiedNames.contains name = false) : findObj K C (some (dictOf es n)) name = some .missing := by
  obtain ⟨cd, hc, hd⟩ := any_some hh
  unfold findObj
  rw [hc, Option.bind_some, ha, Option.bind_some]
  dsimp only
  rw [Option.bind_some, Option.bind_some]
  dsimp only
  unfold PySem.W.ownOf
  rw [if_pos hd]
  dsimp only
  rw [lookIn_dict, hl, Option.bind_some]
  dsimp only
  rw [hcp]
  simp

def LeaveT (fs : List Addr) (A₀ : Around) (base : Heap) (outer : List Env) (K : Frag) (p : Program) (loose : List Str) (mean : ExcName → Option Value) (mg mb : Str → Option Value) (g₀ : Heap) (L : Addr) (m : Str → Option Value) (g : Heap) (R : Result → Shared → Prop) (v : Value) (s' : Shared) : Prop :=
  ∃ g' L' m' news', KtsTurn fs g g' ∧ Fr g' L' s'.heap m' ∧ News g' L' s'.heap news' ∧ ∀ h₁, KtsTurn (outer.filterMap (·.frame)) g₀ h₁ → Fr h₁ L s'.heap m → News h₁ L s'.heap news' → Below A₀ base outer h₁ → K.In h₁ → Top p loose mean mg mb h₁ →
    KtsDicts (outer.filterMap (·.frame)) h₁ → R (.ok (.ret v)) s'
theorem leaveT {fs : List Addr} {A₀ : Around} {base : Heap} {outer : List Env} {K : Frag} {p : Program} {loose : List Str} {mean : ExcName → Option Value} {mg mb : Str → Option Value} {g₀ : Heap} {L L' : Addr} {m m' : Str → Option Value} {g g' : Heap} {news' : List (Addr × Obj)} {R : Result → Shared → Prop} {v : Value} {s' : Shared}
    (T : KtsTurn fs g g') (F' : Fr g' L' s'.heap m') (N' : News g' L' s'.heap news') (k : ∀ h₁, KtsTurn (outer.filterMap (·.frame)) g₀ h₁ → Fr h₁ L s'.heap m → News h₁ L s'.heap news' → Below A₀ base outer h₁ → K.In h₁ → Top p loose mean mg mb h₁ →
    KtsDicts (outer.filterMap (·.frame)) h₁ → R (.ok (.ret v)) s') : LeaveT fs A₀ base outer K p loose mean mg mb g₀ L m g R v s' := ⟨g', L', m', news', T, F', N', k⟩

section
variable {prog : Program} {w : World} {A₀ A : Around} {s : Shared} {base h₀ g₀ : Heap} {outer : List Env} {L a : Addr} {m : Str → Option Value} {cn : Str} {cs : Scope} {ccd : Value} {news : List (Addr × Obj)} {K : Frag} {p : Program} {loose : List Str} {mean : ExcName → Option Value} {mg mb : Str → Option Value}
    {R : Result → Shared → Prop} {name qual : Str} {params : Arguments} {body : List Stmt} {scope : Scope} {dV kV doc pm cdv ct oc : Value} {an od : Option Addr} {osl : Array (Option Value)} {f : Addr} {args : Args} {binds : List (Str × Value)}

/-- a call of a def that tries, in a frame that may stand on others; what the ledger does not name stands in the ground -/
theorem code_tryG (B : Below A₀ base outer h₀) (F : Fr h₀ L s.heap m) (X₀ : K.In h₀) (N : News h₀ L s.heap news) (T : Top p loose mean mg mb h₀) (XB : K.In base) (TB : Top p loose mean mg mb base) (D : KtsDicts (outer.filterMap (·.frame)) h₀)
    (T0 : KtsTurn (outer.filterMap (·.frame)) g₀ h₀) (hA : A.frames = some (envOf cn cs L a ccd :: outer))
    (ho : K.lookup f = some ⟨oc, od, .func (fnOf name qual params body scope dV kV doc pm an cdv ct), osl⟩) (hcd : codeIn K cdv qual = true) (hroom : A.depth < recursionLimit)
    (hbind : BindsTo s (fnOf name qual params body scope dV kV doc pm an cdv ct) args binds) (hloc : ∀ y ∈ binds, scope.names.lookup y.1 = some .local)
    (h : ∀ g L' h₁, Fr h₀ L g m → Fr g L' h₁ (fun y => binds.reverse.lookup y) → News g L' h₁ news → Below A base (envOf cn cs L a ccd :: outer) g → K.In g → Top p loose mean mg mb g → KtsDicts ((envOf cn cs L a ccd :: outer).filterMap (·.frame)) g → GSub s.heap g (news.map (·.1)) →
      wpAny (model prog w) (A.deeper (envOf qual scope L' f cdv)) (execs body (envOf qual scope L' f cdv))
        (fun fl s' => LeaveT ((envOf cn cs L a ccd :: outer).filterMap (·.frame)) A₀ base outer K p loose mean mg mb g₀ L m g R (match fl with | .ret v => v | _ => .none) s')
        (fun e s' => wpAny (model prog w) (A.deeper (envOf qual scope L' f cdv)) (leaving (envOf qual scope L' f cdv) e) (fun _ s'' => R (.error e) s'') (fun e' s'' => R (.error e') s'') s')
        { s with heap := h₁, toks := s.toks + binds.length })
    (hck : cs.kind = .function) (hco : scope.isCoroutine = false) (hgen : scope.isGenerator = false) (hk : scope.kind = .function)
    (hcell : ∀ x ∈ scope.names, x.2 ≠ .cell) : codeAny (model prog w) A (.call (.ref f) args) R s := by
  have X := X₀.keeps F.keep
  obtain ⟨oL, es, ep, hLg, hLd, hN, hNs, st, B₂⟩ := kts_enter B F N hA hck
  refine codeAny_call_def (fd := fnOf name qual params body scope dV kV doc pm an cdv ct) (body := body) (binds := binds) hroom (X _ _ ho) rfl (T.nolimit.keeps F.keep) (codeRec_of X hcd) rfl hbind hcell hloc (fun h₁ hns hk₁ => ?_) hco hgen hk
  have D₂ : KtsDicts ((envOf cn cs L a ccd :: outer).filterMap (·.frame)) (hideAll s.heap (news.map (·.1))) := fun b hb => by
    rcases kts_mem hb with rfl | hb
    · exact ⟨oL, es, ep, hLg, hLd⟩
    · obtain ⟨o, es', n', ho', hd'⟩ := D b hb
      exact ⟨o, es', n', st b o ho', hd'⟩
  refine wpAny_mono (h _ s.heap.objs.size h₁ ⟨hN _ hLg, st, F.above⟩ ⟨hns, fun b o e => hk₁ b o (of_hideAll _ e), Nat.le_of_eq (hideAll_size _ _)⟩
    (fun q hq => ⟨hk₁ _ _ (N q hq).1, Nat.ne_of_lt (Heap.lt_size (N q hq).1), hideAll_none _ (List.mem_map_of_mem hq)⟩) B₂ (X₀.keeps st) (T.keeps st) D₂ (fun b o e n => hideAll_get _ e n)) (fun fl s' hl => ?_) fun _ _ y => y
  obtain ⟨g', L', m', news', T', F', N', k⟩ := hl
  have nL₀ : h₀.get? L = none := kts_self F
  obtain ⟨sl, hs⟩ := T'.up hLg
  obtain ⟨T₁, S₁⟩ := kts_turn_at (h := s'.heap) (fs := outer.filterMap (·.frame)) (g := h₀)
    (fun b hb => by
      obtain ⟨_, o, ho', _⟩ := B.frames.mem hb
      exact ⟨o, ho'⟩)
    (fun b o e nmem => F'.keep b o (T'.other b o (st b o e) fun q => by
      rcases kts_mem q with z | z
      · rw [z, nL₀] at e; cases e
      · exact nmem z))
    (fun b o e _ => by
      obtain ⟨sl', hs'⟩ := T'.up (st b o e)
      exact ⟨sl', F'.keep _ _ hs'⟩)
  have B₃ : Below A₀ base outer (ktsHeap s'.heap (outer.filterMap (·.frame)) h₀) := by
    refine ⟨B.stack, fun b o e => T₁.other b o (B.stays b o e) fun hm => ?_, B.frames.of_keeps fun b o e _ => ?_⟩
    · rw [(B.frames.mem hm).1] at e; cases e
    · obtain ⟨sl', hs'⟩ := T₁.up e
      exact ⟨_, hs', rfl⟩
  refine k _ (T0.trans T₁) ⟨hNs sl _ (F'.keep _ _ hs), S₁, by rw [T₁.size]; exact F.above⟩ (fun q hq => ⟨(N' q hq).1, fun z => ?_, T₁.none_ _ ?_⟩) B₃ (XB.keeps B₃.stays) (TB.keeps B₃.stays) (D.turn T₁)
  · have z' := (N' q hq).2.2
    rw [z, hs] at z'; cases z'
  · cases e : h₀.get? q.1 with
    | none => rfl
    | some o =>
      obtain ⟨sl', hs'⟩ := T'.up (st _ _ e)
      have z' := (N' q hq).2.2
      rw [hs'] at z'; cases z'
end

/-- all that stood stands, but the frames and one place -/
def KeepF (fs : List Addr) (dx : Addr) (h h' : Heap) : Prop := ∀ b o, b ∉ fs → b ≠ dx → h.get? b = some o → h'.get? b = some o

theorem keepF_of {fs : List Addr} {h g g' h' : Heap} {L' x dx : Addr} {m' : Str → Option Value} {o1 o2 : Obj} (G : GSub h g ([(x, o1), (dx, o2)].map (·.1))) (T : KtsTurn fs g g') (F' : Fr g' L' h' m') (e : h.get? x = some o1) (e' : h'.get? x = some o1) : KeepF fs dx h h' := by
  intro b o hf hd ho
  by_cases hx : b = x
  · subst hx; rw [e] at ho; rw [e']; exact ho
  · exact F'.keep b o (T.other b o (G b o ho (by simp [hx, hd])) hf)

theorem turn_none {fs : List Addr} {g₀ h₀ h₁ : Heap} (T0 : KtsTurn fs g₀ h₀) (T1 : KtsTurn fs g₀ h₁) {b : Addr} (e : h₀.get? b = none) : h₁.get? b = none := by
  refine T1.none_ _ ?_
  cases q : g₀.get? b with
  | none => rfl
  | some o => obtain ⟨sl, hs⟩ := T0.up q; rw [e] at hs; cases hs
end Mine
end

section
open PySem PySem.W PyProof.Rows PySem.Calls PySem.Spec
namespace Mine

/-- the signs that two digits of sixteen number, of those that are drawn -/
def pct : List (Nat × Nat × Nat) := [(50, 49, 33), (50, 99, 44), (50, 67, 44), (50, 53, 37), (55, 69, 126), (51, 50, 50), (51, 49, 49)]

/-- what a text's signs tell -/
inductive Dec : List Nat → List Nat → Prop
  | nil : Dec [] []
  | sign {c r o} : c ≠ 37 → Dec r o → Dec (c :: r) (c :: o)
  | pct {a b v r o} : (a, b, v) ∈ pct → Dec r o → Dec (37 :: a :: b :: r) (v :: o)

def DEnd (h₀ : Heap) (L : Addr) (m₀ : Str → Option Value) (news : List (Addr × Obj)) (s : Shared) (i : Nat) (res : Str) (s₂ : Shared) : Prop :=
  ∃ h' tk' m' ti tr, s₂ = { s with heap := h', toks := tk' } ∧ Fr h₀ L h' m' ∧ News h₀ L h' news ∧ m' (Str.ofString "idx") = some (.int (i : Int) ti) ∧ m' (Str.ofString "res") = some (.str res tr) ∧
    ∀ z, z ≠ Str.ofString "idx" → z ≠ Str.ofString "res" → z ≠ Str.ofString "ch" → m' z = m₀ z
def DPost (h₀ : Heap) (L : Addr) (m₀ : Str → Option Value) (news : List (Addr × Obj)) (s : Shared) (i : Nat) (res : Str) (f : Flow) (s₂ : Shared) : Prop :=
  match f with
  | .next => DEnd h₀ L m₀ news s i res s₂
  | _ => False

/-- the frame between the turns -/
abbrev MD (m₀ u : Str → Option Value) (i : Nat) (ti : Tok) (res : Str) (tr : Tok) : Str → Option Value :=
  fun z => if z = Str.ofString "idx" then some (.int (i : Int) ti) else if z = Str.ofString "res" then some (.str res tr) else if z = Str.ofString "ch" then u z else m₀ z

theorem md_eq {m₀ m' : Str → Option Value} {i : Nat} {ti tr : Tok} {res : Str} (h1 : m' (Str.ofString "idx") = some (.int (i : Int) ti)) (h2 : m' (Str.ofString "res") = some (.str res tr)) (h3 : ∀ z, z ≠ Str.ofString "idx" → z ≠ Str.ofString "res" → z ≠ Str.ofString "ch" → m' z = m₀ z) :
    m' = MD m₀ m' i ti res tr := by
  funext z
  show m' z = if z = Str.ofString "idx" then some (.int (i : Int) ti) else if z = Str.ofString "res" then some (.str res tr) else if z = Str.ofString "ch" then m' z else m₀ z
  by_cases e1 : z = Str.ofString "idx"
  · rw [if_pos e1, e1, h1]
  · rw [if_neg e1]
    by_cases e2 : z = Str.ofString "res"
    · rw [if_pos e2, e2, h2]
    · rw [if_neg e2]
      by_cases e3 : z = Str.ofString "ch"
      · rw [if_pos e3]
      · rw [if_neg e3, h3 z e1 e2 e3]

section
variable {prog : Program} {w : World} {A : Around} {E : Value → Shared → Prop} {Q : Flow → Shared → Prop} {s : Shared} {env : Env} {h₀ : Heap} {L : Addr} {m₀ : Str → Option Value} {news : List (Addr × Obj)} {test : PySem.Expr} {body : List Stmt} {text : Str} {out : List Nat}

theorem dec_rest (hE : PassesOwn (model prog w) A env E)
    (last : ∀ (u : Str → Option Value) (i : Nat) ti tr h tk, i = text.length → Fr h₀ L h (MD m₀ u i ti ⟨out.toArray⟩ tr) → News h₀ L h news →
      wpAny (model prog w) A (isTrue test env (eval test env)) (fun b s₂ => WhlIf b False (wpAny (model prog w) A (execs [] env) Q E s₂)) E { s with heap := h, toks := tk })
    (sign : ∀ (u : Str → Option Value) (i : Nat) ti (res : Str) tr (c : Nat) h tk, text.cps[i]? = some c → c ≠ 37 → i < text.length → res.length ≤ i → Fr h₀ L h (MD m₀ u i ti res tr) → News h₀ L h news →
      wpAny (model prog w) A (isTrue test env (eval test env)) (fun b s₂ => WhlIf b (wpAny (model prog w) A (execs body env) (DPost h₀ L m₀ news { s with heap := h, toks := tk } (i + 1) (res ++ ⟨#[c]⟩)) E s₂) False) E { s with heap := h, toks := tk })
    (pair : ∀ (u : Str → Option Value) (i : Nat) ti (res : Str) tr (a b v : Nat) h tk, text.cps[i]? = some 37 → text.cps[i + 1]? = some a → text.cps[i + 2]? = some b → (a, b, v) ∈ pct → i + 2 < text.length → res.length ≤ i → Fr h₀ L h (MD m₀ u i ti res tr) → News h₀ L h news →
      wpAny (model prog w) A (isTrue test env (eval test env)) (fun b s₂ => WhlIf b (wpAny (model prog w) A (execs body env) (DPost h₀ L m₀ news { s with heap := h, toks := tk } (i + 3) (res ++ ⟨#[v]⟩)) E s₂) False) E { s with heap := h, toks := tk }) :
    ∀ {r o : List Nat}, Dec r o → ∀ (k : Nat) (pre : List Nat) (res : Str) ti tr (u : Str → Option Value) h tk, text.cps.toList = pre ++ r → res.cps.toList ++ o = out → res.length ≤ pre.length → Fr h₀ L h (MD m₀ u pre.length ti res tr) → News h₀ L h news →
      WhlRest prog w A E env test body [] Q (k + 1) { s with heap := h, toks := tk } := by
  have at_ : ∀ (pre r : List Nat) (j : Nat), text.cps.toList = pre ++ r → text.cps[pre.length + j]? = r[j]? := fun pre r j e => by
    rw [← Array.getElem?_toList, e, List.getElem?_append_right (by omega)]
    congr 1; omega
  have len : ∀ (pre r : List Nat), text.cps.toList = pre ++ r → text.length = pre.length + r.length := fun pre r e => by
    show text.cps.size = _
    rw [← Array.length_toList, e, List.length_append]
  have more : ∀ {k : Nat} {i : Nat} {res : Str} {h : Heap} {tk : Nat}, (∀ (u : Str → Option Value) ti tr h' tk', Fr h₀ L h' (MD m₀ u i ti res tr) → News h₀ L h' news → WhlRest prog w A E env test body [] Q k { s with heap := h', toks := tk' }) →
      ∀ b s₂, WhlIf b (wpAny (model prog w) A (execs body env) (DPost h₀ L m₀ news { s with heap := h, toks := tk } i res) E s₂) False → WhlIf b (wpAny (model prog w) A (execs body env) (WhlPost prog w A E env test body [] Q k) E s₂) (wpAny (model prog w) A (execs [] env) Q E s₂) := by
    intro k i res h tk ih b s₂ hb
    cases b with
    | false => exact (show False from hb).elim
    | true =>
      refine WhlIf.yes rfl (wpAny_mono (show wpAny (model prog w) A (execs body env) (DPost h₀ L m₀ news { s with heap := h, toks := tk } i res) E s₂ from hb) (fun f s₃ hf => ?_) fun _ _ e => e)
      cases f with
      | next =>
        obtain ⟨h', tk', m', ti, tr, rfl, F', N', e1, e2, e3⟩ := (show DEnd h₀ L m₀ news { s with heap := h, toks := tk } i res s₃ from hf)
        rw [md_eq e1 e2 e3] at F'
        exact ih m' ti tr h' tk' F' N'
      | brk => exact (show False from hf).elim
      | cont => exact (show False from hf).elim
      | ret v => exact (show False from hf).elim
  intro r o hd
  induction hd with
  | nil =>
    intro k pre res ti tr u h tk e1 e2 e3 F N
    have hr : res = ⟨out.toArray⟩ := Str.ext' (by
      rw [List.append_nil] at e2
      rw [← e2])
    rw [hr] at F
    refine whl_turn hE (wpAny_mono (last u pre.length ti tr h tk (by have := len pre [] e1; simpa using this.symm) F N) (fun b s₂ hb => ?_) fun _ _ e => e)
    cases b with
    | false => exact WhlIf.no rfl (show wpAny (model prog w) A (execs [] env) Q E s₂ from hb)
    | true => exact (show False from hb).elim
  | @sign c r o hc _ ih =>
    intro k pre res ti tr u h tk e1 e2 e3 F N
    have hl := len pre _ e1
    rw [List.length_cons] at hl
    refine whl_turn hE (wpAny_mono (sign u pre.length ti res tr c h tk (by simpa using at_ pre _ 0 e1) hc (by omega) e3 F N) (more fun u' ti' tr' h' tk' F' N' => ?_) fun _ _ e => e)
    refine ih k (pre ++ [c]) (res ++ ⟨#[c]⟩) ti' tr' u' h' tk' (by rw [e1]; simp) (by rw [← e2, Str.cps_append, Array.toList_append]; simp) ?_ (by rw [List.length_append]; exact F') N'
    rw [Str.length_append, List.length_append]
    show res.length + 1 ≤ pre.length + 1
    omega
  | @pct a b v r o hp _ ih =>
    intro k pre res ti tr u h tk e1 e2 e3 F N
    have hl := len pre _ e1
    simp only [List.length_cons] at hl
    refine whl_turn hE (wpAny_mono (pair u pre.length ti res tr a b v h tk (by simpa using at_ pre _ 0 e1) (by simpa using at_ pre _ 1 e1) (by simpa using at_ pre _ 2 e1) hp (by omega) e3 F N) (more fun u' ti' tr' h' tk' F' N' => ?_) fun _ _ e => e)
    refine ih k (pre ++ [37, a, b]) (res ++ ⟨#[v]⟩) ti' tr' u' h' tk' (by rw [e1]; simp) (by rw [← e2, Str.cps_append, Array.toList_append]; simp) ?_ (by rw [List.length_append]; exact F') N'
    rw [Str.length_append, List.length_append]
    show res.length + 1 ≤ pre.length + 3
    omega

theorem dec_while {pos : Pos} {t t' : Tok} (hd : Dec text.cps.toList out) (F : Fr h₀ L s.heap m₀) (N : News h₀ L s.heap news) (hi : m₀ (Str.ofString "idx") = some (.int 0 t)) (hr : m₀ (Str.ofString "res") = some (.str (Str.ofString "") t'))
    (hE : PassesOwn (model prog w) A env E)
    (last : ∀ (u : Str → Option Value) (i : Nat) ti tr h tk, i = text.length → Fr h₀ L h (MD m₀ u i ti ⟨out.toArray⟩ tr) → News h₀ L h news →
      wpAny (model prog w) A (isTrue test env (eval test env)) (fun b s₂ => WhlIf b False (wpAny (model prog w) A (execs [] env) Q E s₂)) E { s with heap := h, toks := tk })
    (sign : ∀ (u : Str → Option Value) (i : Nat) ti (res : Str) tr (c : Nat) h tk, text.cps[i]? = some c → c ≠ 37 → i < text.length → res.length ≤ i → Fr h₀ L h (MD m₀ u i ti res tr) → News h₀ L h news →
      wpAny (model prog w) A (isTrue test env (eval test env)) (fun b s₂ => WhlIf b (wpAny (model prog w) A (execs body env) (DPost h₀ L m₀ news { s with heap := h, toks := tk } (i + 1) (res ++ ⟨#[c]⟩)) E s₂) False) E { s with heap := h, toks := tk })
    (pair : ∀ (u : Str → Option Value) (i : Nat) ti (res : Str) tr (a b v : Nat) h tk, text.cps[i]? = some 37 → text.cps[i + 1]? = some a → text.cps[i + 2]? = some b → (a, b, v) ∈ pct → i + 2 < text.length → res.length ≤ i → Fr h₀ L h (MD m₀ u i ti res tr) → News h₀ L h news →
      wpAny (model prog w) A (isTrue test env (eval test env)) (fun b s₂ => WhlIf b (wpAny (model prog w) A (execs body env) (DPost h₀ L m₀ news { s with heap := h, toks := tk } (i + 3) (res ++ ⟨#[v]⟩)) E s₂) False) E { s with heap := h, toks := tk }) :
    wpAny (model prog w) A (exec (.While test body [] pos) env) Q E s := by
  refine whl_start 1 ?_
  have F' : Fr h₀ L s.heap (MD m₀ m₀ 0 t (Str.ofString "") t') := by rw [← md_eq (i := 0) hi hr fun _ _ _ _ => rfl]; exact F
  exact dec_rest hE last sign pair hd 0 [] (Str.ofString "") t t' m₀ s.heap s.toks rfl (by
    have e : (Str.ofString "").cps.toList = [] := by decide +kernel
    rw [e]; rfl) (by decide +kernel) F' N
end
end Mine
end

section
open PySem PySem.W PyProof.Rows PySem.Calls PySem.Spec
namespace Mine
theorem typeCall_int_2 (a b : Value) : checkTypeCall "int" ⟨[a, b], []⟩ = pure () := by kernel_rfl
theorem newCall_int_2 (a b : Value) : checkBuiltinCall "int.__new__" ⟨[.type "int", a, b], []⟩ = pure () := by kernel_rfl

set_option maxHeartbeats 4000000 in
theorem gives_sixteen {x : Str} {u k : Tok} {n : Int} (h128 : x.cps.all (· < 128) = true) (hs : (x.cps.toList.takeWhile (· != 0)).length ≤ 640) (hr : (int_private% "readNumeral") 0 16 (x.cps.toList.takeWhile (· != 0)) = (int_private% "Numeral.value") n) (ha : ((x.cps.toList.takeWhile (· != 0)).length == x.cps.toList.length) = true) : Gives (Builtin.«int.__new__» ⟨[.type "int", .str x u, .int 16 k], []⟩) (.int n) :=
  .of_wp fun M A E s Q h => by
    obtain ⟨hp, g, d, tk, os⟩ := s
    have f1 := F.conv_sub_int
    have f2 := F.madeHere_int
    have f6 : typeOf (.str x u) = pure (.type "str") := rfl
    have f7 : typeOf (.int 16 k) = pure (.type "int") := rfl
    repeat (any_goals (first
      | assumption
      | (with_reducible refine wpAny_ite_true h128 ?_)
      | (with_reducible refine wpAny_ite_true (decide_eq_true hs) ?_)
      | (with_reducible refine wpAny_ite_true (decide_eq_true ha) ?_)
      | wp_step))
    simp only [if_pos h128]
    rw [show Int.toNat 16 = 16 from rfl, hr]
    dsimp only
    rw [if_pos ha]
    obtain h := h
    repeat (any_goals (first | assumption | wp_step))
    all_goals exact ⟨_, rfl, h⟩

theorem call_int_2 {prog : Program} {w : World} {A : Around} {E : Value → Shared → Prop} {s : Shared} {x y : Value} {S : PySem.Spec} {Q : Value → Shared → Prop} (g : Meets (Builtin.«int.__new__» ⟨[.type "int", x, y], []⟩) S) (h : S A.in1 (wants (fun obj s₁ => s₁.TypeIs obj "int" ∧ Q obj s₁) E) s) :
    wpAny (model prog w) A (call (.type "int") [x, y]) Q E s :=
  callType_new F.called_int F.newNe_int (typeCall_int_2 x y) (newCall_int_2 x y) (fun obj => F.args_object_init_3 obj x y) F.entry_int_new g h

theorem sixteen {prog : Program} {w : World} {A : Around} {E : Value → Shared → Prop} {s : Shared} {Q : Value → Shared → Prop} {a b v : Nat} {t k : Tok} (hp : (a, b, v) ∈ pct) (h : Q (.int (v : Int) s.toks) { s with toks := s.toks + 1 }) :
    wpAny (model prog w) A (call (.type "int") [.str ⟨#[a, b]⟩ t, .int 16 k]) Q E s := by
  simp only [pct, List.mem_cons, Prod.mk.injEq, List.not_mem_nil, or_false] at hp
  rcases hp with ⟨rfl, rfl, rfl⟩ | ⟨rfl, rfl, rfl⟩ | ⟨rfl, rfl, rfl⟩ | ⟨rfl, rfl, rfl⟩ | ⟨rfl, rfl, rfl⟩ | ⟨rfl, rfl, rfl⟩ | ⟨rfl, rfl, rfl⟩ <;>
    exact call_int_2 (gives_sixteen (by decide +kernel) (by decide +kernel) (by kernel_rfl) (by decide +kernel)).meets (show (Made.int _).post _ s from ⟨rfl, h⟩)

theorem item_at {text : Str} {i c : Nat} (h : text.cps[i]? = some c) : Txt.item text (i : Int) = ⟨#[c]⟩ := by
  have hi : i < text.length := by
    have := (Array.getElem?_eq_some_iff.mp h).1
    exact this
  unfold Txt.item Txt.charAt
  have e : seqIndex? (i : Int) text.length = some i := by
    unfold seqIndex?
    simp
    omega
  rw [e, Option.bind_some, h]
  rfl

theorem slice_at {text : Str} {i a b : Nat} (ha : text.cps[i + 1]? = some a) (hb : text.cps[i + 2]? = some b) : Txt.slice text (some ((i : Int) + 1)) (some ((i : Int) + 1 + 2)) = ⟨#[a, b]⟩ := by
  have hl : i + 2 < text.cps.toList.length := by
    have := (Array.getElem?_eq_some_iff.mp hb).1
    simpa using this
  show StrLaws.sliceText text (some ((i : Int) + 1)) (some ((i : Int) + 1 + 2)) = _
  rw [StrLaws.sliceText_plain ⟨by omega, by omega, by omega⟩]
  have e1 : ((i : Int) + 1).toNat = i + 1 := by omega
  have e2 : ((i : Int) + 1 + 2 - ((i : Int) + 1)).toNat = 2 := by omega
  rw [e1, e2, List.drop_eq_getElem_cons (by omega), List.take_succ_cons, List.drop_eq_getElem_cons (by omega), List.take_succ_cons, List.take_zero]
  have g1 : text.cps.toList[i + 1] = a := by
    have := (Array.getElem?_eq_some_iff.mp ha).2
    simpa using this
  have g2 : text.cps.toList[i + 1 + 1] = b := by
    have := (Array.getElem?_eq_some_iff.mp hb).2
    simpa using this
  rw [g1, g2]

theorem sign_ne {c : Nat} (h : c ≠ 37) : ((⟨#[c]⟩ : Str) != Str.ofString "%") = true := by
  have e : Str.ofString "%" = ⟨#[37]⟩ := by decide +kernel
  rw [e, bne_iff_ne]
  intro q
  injection q with q
  exact h (by simpa using q)
theorem item_ne {text : Str} {i c : Nat} (h : text.cps[i]? = some c) (hc : c ≠ 37) : (Txt.item text (i : Int) != Str.ofString "%") = true := by
  rw [item_at h]; exact sign_ne hc
theorem item_pct {text : Str} {i : Nat} (h : text.cps[i]? = some 37) : (Txt.item text (i : Int) != Str.ofString "%") = false := by
  rw [item_at h]; decide +kernel

theorem dend {h₀ h' : Heap} {L : Addr} {m₀ m' : Str → Option Value} {news : List (Addr × Obj)} {s : Shared} {i : Nat} {res y : Str} {x : Int} {tk' : Nat} {ti tr : Tok} (F : Fr h₀ L h' m') (N : News h₀ L h' news)
    (e1 : m' (Str.ofString "idx") = some (.int x ti)) (hx : x = (i : Int)) (e2 : m' (Str.ofString "res") = some (.str y tr)) (hy : y = res) (e3 : ∀ z, z ≠ Str.ofString "idx" → z ≠ Str.ofString "res" → z ≠ Str.ofString "ch" → m' z = m₀ z) :
    DEnd h₀ L m₀ news s i res { s with heap := h', toks := tk' } := by
  subst hx hy
  exact ⟨h', tk', m', ti, tr, rfl, F, N, e1, e2, e3⟩
end Mine
end

section
open PySem PySem.W PyProof.Rows PySem.Calls PySem.Spec
namespace Mine
open Builtin Builtin.ObjectAttr

abbrev ent (P : Params) (k : String) (t : Tok) (v : Value) : DictEntry := ⟨PyData.keyHash P (Str.ofString k), .str (Str.ofString k) t, v⟩
abbrev tagEs (P : Params) (sv : Value) (t1 t2 t3 t4 : Tok) : List DictEntry := [ent P "handle" t1 .none, ent P "suffix" t2 sv, ent P "handles" t3 .none, ent P "_transform_type" t4 .none]
abbrev tagEs' (P : Params) (sv rv rv' : Value) (t1 t2 t3 t4 t5 t6 : Tok) : List DictEntry := [ent P "handle" t1 .none, ent P "suffix" t2 sv, ent P "handles" t3 .none, ent P "_transform_type" t4 .none, ent P "_uri_decoded_suffix" t5 rv, ent P "_trval" t6 rv']

def TrvalC (w : World) (p : Program) (loose : List Str) (mean : ExcName → Option Value) (mg mb : Str → Option Value) : Prop :=
  ∀ (dp un : Nat) (gd : Option (List Code)) (cn : Str) (cs : Scope) (a : Addr) (ccd : Value) (outer : List Env) (A₀ : Around) (base h₀ g₀ : Heap) (L : Addr) (m : Str → Option Value) (s : Shared)
    (x dx : Addr) (t1 t2 t3 t4 ts : Tok) (text : Str) (out : List Nat) (expr : Bool) (Q E : Value → Shared → Prop),
    Below A₀ base outer h₀ → Fr h₀ L s.heap m → (hd.heap_39 w.params).In h₀ → News h₀ L s.heap [(x, instObj 69 dx), (dx, dictOf (tagEs w.params (.str text ts) t1 t2 t3 t4) 4)] → Top p loose mean mg mb h₀ →
    (hd.heap_39 w.params).In base → Top p loose mean mg mb base → KtsDicts (outer.filterMap (·.frame)) h₀ → KtsTurn (outer.filterMap (·.frame)) g₀ h₀ → cs.kind = .function →
    @Ne Nat x dx → Dec text.cps.toList out → text.length ≤ 100 → dp + 3 < recursionLimit → un + 24 < cLine →
    (∀ t h' tk' h₁ t5 t6 t7 t8, KtsTurn (outer.filterMap (·.frame)) g₀ h₁ → Fr h₁ L h' m → Below A₀ base outer h₁ → (hd.heap_39 w.params).In h₁ → Top p loose mean mg mb h₁ → KtsDicts (outer.filterMap (·.frame)) h₁ →
      h'.get? dx = some (dictOf (tagEs' w.params (.str text ts) (.str ⟨out.toArray⟩ t7) (.str ⟨out.toArray⟩ t8) t1 t2 t3 t4 t5 t6) 6) → KeepF (L :: outer.filterMap (·.frame)) dx s.heap h' → Q (.str ⟨out.toArray⟩ t) { s with heap := h', toks := tk' }) →
    wpAny (model Challenge.rw_ez0344_01.row.prog w) (ktrTop dp un gd cn cs L a ccd [] outer) (getAttr (.ref x) (Str.ofString "trval") expr) Q E s

theorem pct_chr {a b v : Nat} (hp : (a, b, v) ∈ pct) : (decide ((v : Int) < 0) || decide ((v : Int) > 0x10FFFF)) = false := by
  simp only [pct, List.mem_cons, Prod.mk.injEq, List.not_mem_nil, or_false] at hp
  rcases hp with ⟨rfl, rfl, rfl⟩ | ⟨rfl, rfl, rfl⟩ | ⟨rfl, rfl, rfl⟩ | ⟨rfl, rfl, rfl⟩ | ⟨rfl, rfl, rfl⟩ | ⟨rfl, rfl, rfl⟩ | ⟨rfl, rfl, rfl⟩ <;> decide

local macro_rules | `(tactic| walk_at "call builtin:chr") => `(tactic| (k_here; k_dflt ((refine P.chr_of_int (pct_chr (by assumption)) ?_))))
local macro_rules | `(tactic| k_room) => `(tactic| ktr_room)
local macro_rules | `(tactic| k_enter) => `(tactic| ((with_reducible show codeAny _ _ (Code.call (Value.ref 65) _) _ _); kts_go))
local macro_rules | `(tactic| walk_at "getAttr ref") => `(tactic| (k_here; k_dflt (((refine' get_miss ?k1 ?k2 ?k3 (findObj_missing ?k4 ?k5 ?k6 ?k7) ?k8 ?kc ?k9 ?kD ?kA ?kB ?_); (case k2 => k_inst); (case k1 => k_in); (case k3 => k_is); (case k4 => k_is); (case k5 => k_is); (case k6 => k_get); (case k7 => decide +kernel); (case k8 => k_is); (case kc => k_is); (case k9 => decide +kernel); (case kD => decide +kernel); (case kA => decide +kernel); (case kB => rfl); intro h' tk' e' x'))))
local macro_rules | `(tactic| walk_at "noteFrame ref") => `(tactic| (k_here; (with_reducible rename Heap.NewAttrErr _ _ _ _ _ => tX); k_dflt (((refine' caught_own tX.of ?h0 ?F ?N ?K ?XB ?TB ?D ?T0 ?ex ?hv ?hn ?hexc ?hnt ?hsub ?_); (case h0 => (obtain ⟨t9, u9, he9⟩ := tX.there; exact ⟨_, _, _, he9, rfl, rfl⟩)); (case F => k_asm); (case N => k_asm); (case K => assumption); (case XB => assumption); (case TB => assumption); (case D => assumption); (case T0 => first | assumption | exact KtsTurn.refl); (case ex => k_is); (case hv => boot_by_name); (case hn => decide); (case hexc => kts_sub); (case hnt => (rw [isSubtype_type]; kernel_rfl)); (case hsub => kts_sub); intro h' g' T' F' N' K' X' P' D'; (try k_sweep)))))

local macro_rules | `(tactic| walk_at "exec While Compare cons nil") => `(tactic| (k_here; k_dflt (((refine' dec_while ?d ?F ?N ?hi ?hr ?hE ?A ?B ?C); (case d => assumption); (case F => k_asm); (case N => k_asm); (case hi => rfl); (case hr => rfl); (case hE => first | passes_own | with_unfolding_all passes_own); (case' A => (intro u9 i9 ti9 tr9 h9 tk9 hi9 F9 N9; (try dsimp only); (try k_fold))); (case' B => (intro u9 i9 ti9 res9 tr9 c9 h9 tk9 hc9 hn9 hi9 hl9 F9 N9; have ht9 := item_ne hc9 hn9; (try dsimp only); (try k_fold))); (case' C => (intro u9 i9 ti9 res9 tr9 a9 b9 v9 h9 tk9 hc9 ha9 hb9 hp9 hi9 hl9 F9 N9; have ht9 := item_pct hc9; (try dsimp only); (try k_fold)))))))
local macro_rules | `(tactic| walk_at "WhlIf") => `(tactic| first | (refine WhlIf.yes (decide_eq_true (by omega)) ?_) | (refine WhlIf.no (decide_eq_false (by omega)) ?_))
local macro_rules | `(tactic| walk_at "DPost") => `(tactic| dsimp only [DPost])

local macro_rules | `(tactic| walk_at "call type:int cons nil") => `(tactic| (k_here; (with_reducible show wpAny _ _ (call (Value.type "int") [Value.str (Txt.slice _ _ _) _, Value.int _ _]) _ _ _); k_dflt (((rw [slice_at (by assumption) (by assumption)]); (refine sixteen (by assumption) ?_)))))
local macro_rules | `(tactic| walk_at "DEnd") => `(tactic| (k_dflt ((refine' dend ?F ?N ?e1 ?hx ?e2 ?hy ?e3); ((case F => k_asm)); ((case N => k_asm)); ((case e1 => with_unfolding_all rfl)); ((case hx => omega)); ((case e2 => with_unfolding_all rfl)); ((case hy => first | rw [item_at (by assumption)] | rfl)); ((case e3 => (intro z h1 h2 h3; simp only [MD, if_neg h1, if_neg h2, if_neg h3]))))))

set_option maxHeartbeats 4000000 in
theorem trval_c (w : World) (p : Program) (loose : List Str) (mean : ExcName → Option Value) (mg mb : Str → Option Value) : TrvalC w p loose mean mg mb := by
  intro dp un gd cn cs a ccd outer A₀ base h₀ g₀ L m s x dx t1 t2 t3 t4 ts text out expr Q E B F X N T XB TB D T0 hk hne hdec hlen hdp hun hret
  have hfill : PySem.Challenge.rw_ez0344_01.prog = PySem.Challenge.rw_ez0344_01.prog := rfl
  revert X hfill
  k_fill
  intro X hfill
  clear hfill
  k_dflt (refine' get_prop ?k1 ?k2 ?k3 ?k4 ?k5 ?k6 ?k7 ?k8 ?k9 ?_; (case k1 => k_asm); (case k2 => k_asm); (case k3 => k_inst); (case k4 => k_is); (case k5 => k_is); (case k6 => k_is); (case k7 => k_is); (case k8 => k_is); (case k9 => k_is); k_whole)
  k_dflt (refine' code_tryG ?k1 ?k2 ?k3 ?k4 ?k5 ?XB ?TB ?D ?T0 ?kA ?k6 ?k7 ?k8 ?k9 ?kB ?_ ?cK ?c2 ?c3 ?c4 ?c5; (case kA => exact rfl); (case k2 => k_asm); (case k1 => k_asm); (case XB => exact XB); (case TB => exact TB); (case D => exact D); (case T0 => exact T0); (case k3 => k_asm); (case k4 => k_asm); (case k5 => k_asm); (case k6 => k_is); (case k7 => k_is); (case k8 => ktr_room); (case k9 => exact BindsTo.of_eq rfl); (case kB => exact locs rfl); (case cK => assumption); (case c2 => exact rfl); (case c3 => exact rfl); (case c4 => exact rfl); (case c5 => decide); k_whole; intro g' L' h' FG' F' N' B' X' T' D' kG'; (try dsimp only); (try k_fold))
  k_steps
  show LeaveT _ _ _ _ _ _ _ _ _ _ _ _ _ _ _ _ _
  refine leaveT (by assumption) (by assumption) (by assumption) (fun h₁ T₁ F₁ N₁ B₁ X₁ P₁ D₁ => ?_)
  dsimp only
  refine handed_on rfl ?_
  rename GSub _ _ _ => kG9
  refine hret _ _ _ _ _ _ _ _ T₁ F₁ B₁ X₁ P₁ D₁ (N₁ (dx, _) (by k_mem)).1 (keepF_of kG9 (by assumption) (by assumption) (N (x, _) (by k_mem)).1 (N₁ (x, _) (by k_mem)).1)
end Mine
end

section
open PySem PySem.W PyProof.Rows PySem.Calls PySem.Spec
namespace Mine

-- what the drawn texts tell, in plain Lean
def decB : List Nat → List Nat → Bool
  | [], [] => true
  | c :: r, o =>
    if c = 37 then (match r, o with
      | a :: b :: r', v :: o' => pct.contains (a, b, v) && decB r' o'
      | _, _ => false)
    else (match o with
      | c' :: o' => c == c' && decB r o'
      | [] => false)
  | _, _ => false
theorem decB_dec : ∀ (n : Nat) (l o : List Nat), l.length ≤ n → decB l o = true → Dec l o := by
  intro n
  induction n with
  | zero =>
    intro l o hl h
    cases l with
    | nil => cases o with
      | nil => exact .nil
      | cons _ _ => simp [decB] at h
    | cons _ _ => simp at hl
  | succ n ih =>
    intro l o hl h
    cases l with
    | nil => cases o with
      | nil => exact .nil
      | cons _ _ => simp [decB] at h
    | cons c r =>
      by_cases hc : c = 37
      · subst hc
        match r, o, h with
        | a :: b :: r', v :: o', h =>
          simp only [decB, if_true, Bool.and_eq_true] at h
          exact .pct (by simpa using h.1) (ih r' o' (by simp only [List.length_cons] at hl; omega) h.2)
        | [], o, h => simp [decB] at h
        | [_], o, h => simp [decB] at h
        | _ :: _ :: _, [], h => simp [decB] at h
      · match o, h with
        | [], h => simp [decB, hc] at h
        | c' :: o', h =>
          unfold decB at h
          rw [if_neg hc] at h
          simp only [Bool.and_eq_true, beq_iff_eq] at h
          rw [← h.1]
          exact .sign hc (ih r o' (by simp only [List.length_cons] at hl; omega) h.2)
theorem dec_of {l o : List Nat} (h : decB l o = true) : Dec l o := decB_dec _ l o (Nat.le_refl _) h
theorem Dec.app {a oa b ob : List Nat} (x : Dec a oa) (y : Dec b ob) : Dec (a ++ b) (oa ++ ob) := by
  induction x with
  | nil => exact y
  | sign hc _ ih => exact .sign hc ih
  | pct hp _ ih => exact .pct hp ih
theorem menu_dec {q : Str} (h : q ∈ menu) : Dec q.cps.toList (toldP q).cps.toList := by
  have all : ∀ q ∈ menu, decB q.cps.toList (toldP q).cps.toList = true := by decide +kernel
  exact dec_of (all q h)

theorem join_cps (ps : List Str) : (joinS ps).cps.toList = ps.flatMap fun q => q.cps.toList := by
  have e0 : (Str.ofString "") = Str.empty := by decide +kernel
  show (Builtin.Str.glued (Str.ofString "") ps).cps.toList = _
  rw [StrLaws.glued_eq_join, e0]
  induction ps with
  | nil => rfl
  | cons x r ih =>
    cases r with
    | nil => simp [Str.join]
    | cons y r =>
      show (x ++ Str.empty ++ Str.join Str.empty (y :: r)).cps.toList = _
      rw [Str.cps_append, Str.cps_append, Array.toList_append, Array.toList_append, ih]
      show x.cps.toList ++ [] ++ _ = _
      simp
theorem join_dec {ps : List Str} (hm : ∀ q ∈ ps, q ∈ menu) : Dec (joinS ps).cps.toList (joinS (ps.map toldP)).cps.toList := by
  rw [join_cps, join_cps]
  induction ps with
  | nil => exact .nil
  | cons q r ih =>
    rw [List.flatMap_cons, List.map_cons, List.flatMap_cons]
    exact (menu_dec (hm q (.head _))).app (ih fun p hp => hm p (.tail _ hp))
theorem join_len {ps : List Str} (hm : ∀ q ∈ ps, q ∈ menu) (h5 : ps.length ≤ 5) : (joinS ps).length ≤ 100 := by
  have e : (joinS ps).length = (ps.map fun q => q.length).sum := by
    show (joinS ps).cps.size = _
    rw [← Array.length_toList, join_cps, List.length_flatMap]
    rfl
  have h := sum_le (f := fun q => q.length) fun q hq => menu_len q (hm q hq)
  rw [e]; omega

theorem turn_nil {g g' : Heap} (T : KtsTurn [] g g') {h : Heap} {L : Addr} {m : Str → Option Value} (ha : g.objs.size ≤ L) (F : Fr g' L h m) : Fr g L h m := ⟨F.ns, fun b o e => F.keep b o (T.other b o e (by simp)), ha⟩
theorem turn_nil_news {g g' : Heap} (T : KtsTurn [] g g') {h : Heap} {L : Addr} {news : List (Addr × Obj)} (N : News g' L h news) : News g L h news := fun p hp => ⟨(N p hp).1, (N p hp).2.1, by
  cases q : g.get? p.1 with
  | none => rfl
  | some o => have := T.other _ _ q (by simp); rw [(N p hp).2.2] at this; cases this⟩

section
variable {w : World} {p : Program} {loose : List Str} {mean : ExcName → Option Value} {mg mb : Str → Option Value} {dp un : Nat} {gd : Option (List Code)} {cn : Str} {cs : Scope} {a : Addr} {ccd : Value} {outer : List Env} {A₀ : Around} {base h₀ g₀ : Heap} {L : Addr} {m : Str → Option Value} {s : Shared}
    {x dx : Addr} {t1 t2 t3 t4 ts : Tok} {text res : Str} {expr : Bool} {news : List (Addr × Obj)} {g : Obj → List (Addr × Obj)} {Q E : Value → Shared → Prop}

/-- the first look at a tag's trval, in any frame of the law's -/
theorem trval_use (B : Below A₀ base outer h₀) (F : Fr h₀ L s.heap m) (X : (hd.heap_39 w.params).In h₀) (N : News h₀ L s.heap news) (T : Top p loose mean mg mb h₀)
    (XB : (hd.heap_39 w.params).In base) (TB : Top p loose mean mg mb base) (D : KtsDicts (outer.filterMap (·.frame)) h₀) (T0 : KtsTurn (outer.filterMap (·.frame)) g₀ h₀) (hk : cs.kind = .function)
    (hx : (x, instObj 69 dx) ∈ news) (U : UpdF dx (dictOf (tagEs w.params (.str text ts) t1 t2 t3 t4) 4) news g) (hne : @Ne Nat x dx) (hdc : Dec text.cps.toList res.cps.toList) (hlen : text.length ≤ 100) (hdp : dp + 3 < recursionLimit) (hun : un + 24 < cLine)
    (hret : ∀ t h' tk' h₁ t5 t6 t7 t8, KtsTurn (outer.filterMap (·.frame)) g₀ h₁ → Fr h₁ L h' m → News h₁ L h' (g (dictOf (tagEs' w.params (.str text ts) (.str res t7) (.str res t8) t1 t2 t3 t4 t5 t6) 6)) → Below A₀ base outer h₁ → (hd.heap_39 w.params).In h₁ → Top p loose mean mg mb h₁ → KtsDicts (outer.filterMap (·.frame)) h₁ →
      Q (.str res t) { s with heap := h', toks := tk' }) :
    wpAny (model Challenge.rw_ez0344_01.row.prog w) (ktrTop dp un gd cn cs L a ccd [] outer) (getAttr (.ref x) (Str.ofString "trval") expr) Q E s := by
  obtain ⟨pre, post, e1, e2, h1, h2⟩ := U.split
  have hdx : (dx, dictOf (tagEs w.params (.str text ts) t1 t2 t3 t4) 4) ∈ news := by rw [e1]; exact List.mem_append_right _ (.head _)
  have hres : (⟨res.cps.toList.toArray⟩ : Str) = res := rfl
  refine trval_c w p loose mean mg mb dp un gd cn cs a ccd outer A₀ base h₀ g₀ L m s x dx t1 t2 t3 t4 ts text res.cps.toList expr Q E B F X (fun q hq => ?_) T XB TB D T0 hk hne hdc hlen hdp hun fun t h' tk' h₁ t5 t6 t7 t8 T₁ F₁ B₁ X₁ P₁ D₁ e k => ?_
  · rcases List.mem_cons.mp hq with rfl | hq
    · exact N _ hx
    · rw [List.mem_singleton.mp hq]; exact N _ hdx
  · refine hret t h' tk' h₁ t5 t6 t7 t8 T₁ F₁ (fun q hq => ?_) B₁ X₁ P₁ D₁
    rw [e2] at hq
    have off : ∀ q ∈ news, q.1 ∉ L :: outer.filterMap (·.frame) := fun q hq hm => by
      rcases List.mem_cons.mp hm with z | z
      · exact (N q hq).2.1 z
      · obtain ⟨_, o, ho, _⟩ := B.frames.mem z
        rw [(N q hq).2.2] at ho; cases ho
    have kept : ∀ q ∈ news, q.1 ≠ dx → h'.get? q.1 = some q.2 ∧ q.1 ≠ L ∧ h₁.get? q.1 = none := fun q hq hn =>
      ⟨k _ _ (off q hq) hn (N q hq).1, (N q hq).2.1, turn_none T0 T₁ (N q hq).2.2⟩
    rcases List.mem_append.mp hq with hq | hq
    · exact kept q (by rw [e1]; exact List.mem_append_left _ hq) (h1 q hq)
    · rcases List.mem_cons.mp hq with rfl | hq
      · exact ⟨e, (N _ hdx).2.1, turn_none T0 T₁ (N _ hdx).2.2⟩
      · exact kept q (by rw [e1]; exact List.mem_append_right _ (.tail _ hq)) (h2 q hq)

/-- the same in the law's own frame -/
theorem trval_use0 (B : Below A₀ base [] h₀) (F : Fr h₀ L s.heap m) (X : (hd.heap_39 w.params).In h₀) (N : News h₀ L s.heap news) (T : Top p loose mean mg mb h₀)
    (XB : (hd.heap_39 w.params).In base) (TB : Top p loose mean mg mb base) (hk : cs.kind = .function)
    (hx : (x, instObj 69 dx) ∈ news) (U : UpdF dx (dictOf (tagEs w.params (.str text ts) t1 t2 t3 t4) 4) news g) (hne : @Ne Nat x dx) (hdc : Dec text.cps.toList res.cps.toList) (hlen : text.length ≤ 100) (hdp : dp + 3 < recursionLimit) (hun : un + 24 < cLine)
    (hret : ∀ t h' tk' t5 t6 t7 t8, Fr h₀ L h' m → News h₀ L h' (g (dictOf (tagEs' w.params (.str text ts) (.str res t7) (.str res t8) t1 t2 t3 t4 t5 t6) 6)) →
      Q (.str res t) { s with heap := h', toks := tk' }) :
    wpAny (model Challenge.rw_ez0344_01.row.prog w) (ktrTop dp un gd cn cs L a ccd [] []) (getAttr (.ref x) (Str.ofString "trval") expr) Q E s :=
  trval_use (g₀ := h₀) B F X N T XB TB ktsDicts_nil KtsTurn.refl hk hx U hne hdc hlen hdp hun fun t h' tk' h₁ t5 t6 t7 t8 T₁ F₁ N₁ _ _ _ _ => hret t h' tk' t5 t6 t7 t8 (turn_nil T₁ F.above F₁) (turn_nil_news T₁ N₁)
end
end Mine
end

section
open PySem PySem.W PyProof.Rows PySem.Calls PySem.Spec
namespace Mine

/-- a later look at a tag's trval: it is kept -/
def HitC (w : World) (p : Program) (loose : List Str) (mean : ExcName → Option Value) (mg mb : Str → Option Value) : Prop :=
  ∀ (dp un : Nat) (gd : Option (List Code)) (cn : Str) (cs : Scope) (a : Addr) (ccd : Value) (outer : List Env) (A₀ : Around) (base h₀ : Heap) (L : Addr) (m : Str → Option Value) (s : Shared)
    (x dx : Addr) (t1 t2 t3 t4 t5 t6 ts t7 t8 : Tok) (text res : Str) (expr : Bool) (Q E : Value → Shared → Prop),
    Below A₀ base outer h₀ → Fr h₀ L s.heap m → (hd.heap_39 w.params).In h₀ → News h₀ L s.heap [(x, instObj 69 dx), (dx, dictOf (tagEs' w.params (.str text ts) (.str res t7) (.str res t8) t1 t2 t3 t4 t5 t6) 6)] → Top p loose mean mg mb h₀ →
    cs.kind = .function → @Ne Nat x dx → dp + 3 < recursionLimit → un + 24 < cLine →
    (∀ h' tk', Fr h₀ L h' m → Keep0 s.heap h' → Q (.str res t8) { s with heap := h', toks := tk' }) →
    wpAny (model Challenge.rw_ez0344_01.row.prog w) (ktrTop dp un gd cn cs L a ccd [] outer) (getAttr (.ref x) (Str.ofString "trval") expr) Q E s

theorem keep_pair {h g h' : Heap} {L' x dx : Addr} {m' : Str → Option Value} {o1 o2 : Obj} (G : GSub h g ([(x, o1), (dx, o2)].map (·.1))) (F' : Fr g L' h' m') (e1 : h.get? x = some o1) (e1' : h'.get? x = some o1) (e2 : h.get? dx = some o2) (e2' : h'.get? dx = some o2) : Keep0 h h' := by
  intro b o ho
  by_cases h1 : b = x
  · subst h1; rw [e1] at ho; rw [e1']; exact ho
  · by_cases h2 : b = dx
    · subst h2; rw [e2] at ho; rw [e2']; exact ho
    · exact F'.keep b o (G b o ho (by simp [h1, h2]))

local macro_rules | `(tactic| k_room) => `(tactic| ktr_room)

set_option maxHeartbeats 4000000 in
theorem hit_c (w : World) (p : Program) (loose : List Str) (mean : ExcName → Option Value) (mg mb : Str → Option Value) : HitC w p loose mean mg mb := by
  intro dp un gd cn cs a ccd outer A₀ base h₀ L m s x dx t1 t2 t3 t4 t5 t6 ts t7 t8 text res expr Q E B F X N T hk hne hdp hun hret
  have hfill : PySem.Challenge.rw_ez0344_01.prog = PySem.Challenge.rw_ez0344_01.prog := rfl
  revert X hfill
  k_fill
  intro X hfill
  clear hfill
  k_dflt (refine' get_prop ?k1 ?k2 ?k3 ?k4 ?k5 ?k6 ?k7 ?k8 ?k9 ?_; (case k1 => k_asm); (case k2 => k_asm); (case k3 => k_inst); (case k4 => k_is); (case k5 => k_is); (case k6 => k_is); (case k7 => k_is); (case k8 => k_is); (case k9 => k_is); k_whole)
  k_dflt ((refine' code_defG ?k1 ?k2 ?k3 ?k4 ?k5 ?kA ?kF ?kK ?k6 ?k7 ?k8 ?k9 ?kB ?_ ?c2 ?c3 ?c4 ?c5; (case kA => exact rfl); (case kF => exact rfl); (case kK => assumption); (case k1 => k_asm); (case k2 => k_asm); (case k3 => k_asm); (case k4 => k_asm); (case k5 => k_asm); (case k6 => k_is); (case k7 => k_is); (case k8 => ktr_room); (case k9 => exact BindsTo.of_eq rfl); (case c5 => decide); (case kB => exact locs rfl); (case c2 => exact rfl); (case c3 => exact rfl); (case c4 => exact rfl); k_whole; intro g' L' h' FG' F' N' B' X' T' kG'; (try dsimp only); (try k_lift B'); (try k_fold)))
  k_steps
  rename GSub _ _ _ => kG9
  rename News _ _ _ _ => kN9
  exact hret _ _ (by assumption) (keep_pair kG9 (by assumption) (N (x, _) (by k_mem)).1 (kN9 (x, _) (by k_mem)).1 (N (dx, _) (by k_mem)).1 (kN9 (dx, _) (by k_mem)).1)

theorem hit_use {w : World} {p : Program} {loose : List Str} {mean : ExcName → Option Value} {mg mb : Str → Option Value} {dp un : Nat} {gd : Option (List Code)} {cn : Str} {cs : Scope} {a : Addr} {ccd : Value} {outer : List Env} {A₀ : Around} {base h₀ : Heap} {L : Addr} {m : Str → Option Value} {s : Shared}
    {x dx : Addr} {t1 t2 t3 t4 t5 t6 ts t7 t8 : Tok} {text res : Str} {expr : Bool} {news : List (Addr × Obj)} {Q E : Value → Shared → Prop}
    (B : Below A₀ base outer h₀) (F : Fr h₀ L s.heap m) (X : (hd.heap_39 w.params).In h₀) (N : News h₀ L s.heap news) (T : Top p loose mean mg mb h₀) (hk : cs.kind = .function)
    (hx : (x, instObj 69 dx) ∈ news) (hdx : (dx, dictOf (tagEs' w.params (.str text ts) (.str res t7) (.str res t8) t1 t2 t3 t4 t5 t6) 6) ∈ news) (hne : @Ne Nat x dx) (hdp : dp + 3 < recursionLimit) (hun : un + 24 < cLine)
    (hret : ∀ h' tk', Fr h₀ L h' m → News h₀ L h' news → Q (.str res t8) { s with heap := h', toks := tk' }) :
    wpAny (model Challenge.rw_ez0344_01.row.prog w) (ktrTop dp un gd cn cs L a ccd [] outer) (getAttr (.ref x) (Str.ofString "trval") expr) Q E s :=
  hit_c w p loose mean mg mb dp un gd cn cs a ccd outer A₀ base h₀ L m s x dx t1 t2 t3 t4 t5 t6 ts t7 t8 text res expr Q E B F X (fun q hq => by
    rcases List.mem_cons.mp hq with rfl | hq
    · exact N _ hx
    · rw [List.mem_singleton.mp hq]; exact N _ hdx) T hk hne hdp hun fun h' tk' F' k => hret h' tk' F' fun q hq => ⟨k _ _ (N q hq).1, (N q hq).2⟩
end Mine
end

section
open PySem PySem.W PyProof.Rows PySem.Calls PySem.Spec
namespace Mine

def AllNeQ (l : Addr) : List (Addr × Obj) → Prop
  | [] => True
  | p :: r => (@Ne Nat p.1 l) ∧ AllNeQ l r
theorem allNeQ_of {l : Addr} : ∀ {r : List (Addr × Obj)}, (∀ p ∈ r, p.1 ≠ l) → AllNeQ l r
  | [], _ => trivial
  | p :: _, h => ⟨h p (.head _), allNeQ_of fun q hq => h q (.tail _ hq)⟩

theorem news_upd_new {h₀ h h' : Heap} {L st l : Addr} {o o' ol : Obj} {m : Str → Option Value} {news : List (Addr × Obj)} {g : Obj → List (Addr × Obj)} (F : Fr h₀ L h m) (N : News h₀ L h news) (U : UpdF st o news g) (e : h'.get? st = some o') (k : Keep1 st h h') (el : h'.get? l = some ol) (nl : h.get? l = none) : News h₀ L h' ((l, ol) :: g o') := by
  intro p hp
  rcases List.mem_cons.mp hp with rfl | hp
  · refine ⟨el, fun q => ?_, ?_⟩
    · obtain ⟨oL, _, _, hL, _⟩ := F.ns
      have q' : l = L := q
      rw [q', hL] at nl; cases nl
    · cases e₀ : h₀.get? l with
      | none => rfl
      | some o₀ => rw [F.keep _ _ e₀] at nl; cases nl
  · exact news_upd N U e k p hp

theorem new_off {h₀ h : Heap} {L l : Addr} {news : List (Addr × Obj)} (N : News h₀ L h news) (nl : h.get? l = none) : ∀ p ∈ news, p.1 ≠ l := fun p hp q => by
  have := (N p hp).1
  rw [q, nl] at this; cases this

theorem written_use {w : World} {p : Program} {loose : List Str} {mean : ExcName → Option Value} {mg mb : Str → Option Value} {dp un : Nat} {gd : Option (List Code)} {cn : Str} {cs : Scope} {a : Addr} {ccd : Value} {cl : List (Str × Addr)} {outer : List Env} {A₀ : Around} {base h₀ : Heap} {L : Addr} {m : Str → Option Value} {s : Shared}
    {st nums : Addr} {at_ : Int} {t : Tok} {ws : List Value} {news : List (Addr × Obj)} {g : Obj → List (Addr × Obj)}
    {Q E : Value → Shared → Prop}
    (B : Below A₀ base outer h₀) (F : Fr h₀ L s.heap m) (X : (hd.heap_39 w.params).In h₀) (N : News h₀ L s.heap news) (T : Top p loose mean mg mb h₀) (hk : cs.kind = .function)
    (hne : @Ne Nat st nums) (U : UpdF st (stO nums at_ t) news g) (hn : (nums, listOf ws.toArray 0) ∈ news) (hw : Nums ws) (h0 : 0 ≤ at_) (h1 : at_ < 900)
    (hdp : dp + 2 < recursionLimit) (hun : un + 16 < cLine)
    (hret : ∀ l vs ps k t' h' tk', Fr h₀ L h' m → News h₀ L h' ((l, LCg.lst vs) :: g (stO nums k t')) → (∀ q ∈ news, q.1 ≠ l) → at_ ≤ k → k ≤ at_ + 6 → StrsAre vs ps → (∀ q ∈ ps, q ∈ menu) → ps.length ≤ 5 → Q (.ref l) { s with heap := h', toks := tk' }) :
    wpAny (model Challenge.rw_ez0344_01.row.prog w) (ktrTop dp un gd cn cs L a ccd cl outer) (call (.ref 308) [.ref st]) Q E s := by
  obtain ⟨pre, post, e1, _, _, _⟩ := U.split
  have hst : (st, stO nums at_ t) ∈ news := by rw [e1]; exact List.mem_append_right _ (.head _)
  refine written_c w p loose mean mg mb dp un gd cn cs a ccd cl outer A₀ base h₀ L m s st nums at_ t ws Q E B F X (fun q hq => ?_) T hk hne hw h0 h1 hdp hun fun l vs ps k t' h' tk' F' e kp k0 k1 el nl hS hM hP => ?_
  · rcases List.mem_cons.mp hq with rfl | hq
    · exact N _ hst
    · rw [List.mem_singleton.mp hq]; exact N _ hn
  · exact hret l vs ps k t' h' tk' F' (news_upd_new F N U e kp el nl) (new_off N nl) k0 k1 hS hM hP


theorem told_use {w : World} {p : Program} {loose : List Str} {mean : ExcName → Option Value} {mg mb : Str → Option Value} {dp un : Nat} {gd : Option (List Code)} {cn : Str} {cs : Scope} {a : Addr} {ccd : Value} {cl : List (Str × Addr)} {outer : List Env} {A₀ : Around} {base h₀ : Heap} {L : Addr} {m : Str → Option Value} {s : Shared}
    {l : Addr} {vs : List Value} {ps : List Str} {news : List (Addr × Obj)}
    {Q E : Value → Shared → Prop}
    (B : Below A₀ base outer h₀) (F : Fr h₀ L s.heap m) (X : (hd.heap_39 w.params).In h₀) (N : News h₀ L s.heap news) (T : Top p loose mean mg mb h₀) (hk : cs.kind = .function)
    (hl : (l, LCg.lst vs) ∈ news) (hS : StrsAre vs ps) (hM : ∀ q ∈ ps, q ∈ menu) (hP : ps.length ≤ 5)
    (hdp : dp + 1 < recursionLimit) (hun : un + 8 < cLine)
    (hret : ∀ t h' tk', Fr h₀ L h' m → News h₀ L h' news → Q (.str (joinS (ps.map toldP)) t) { s with heap := h', toks := tk' }) :
    wpAny (model Challenge.rw_ez0344_01.row.prog w) (ktrTop dp un gd cn cs L a ccd cl outer) (call (.ref 313) [.ref l]) Q E s :=
  told_c w p loose mean mg mb dp un gd cn cs a ccd cl outer A₀ base h₀ L m s l vs ps Q E B F X (fun q hq => by rw [List.mem_singleton.mp hq]; exact N _ hl) T hk hS hM hP hdp hun
    fun t h' tk' F' k => hret t h' tk' F' fun q hq => ⟨k _ _ (N q hq).1, (N q hq).2⟩

theorem nums_of {ws : List Value} {ns : List Int} (h : IntsAre ws (List.map (fun k' => Int.fmod (if k' < 0 then -k' else k') 1000003) ns ++ [5, 0, 11])) (hl : ns.length ≤ 24) : Nums ws := by
  refine ⟨_, h, ?_, ?_, fun n hn => ?_⟩
  · simp only [List.length_append, List.length_map, List.length_cons, List.length_nil]; omega
  · simp only [List.length_append, List.length_map, List.length_cons, List.length_nil]; omega
  · rcases List.mem_append.mp hn with hn | hn
    · obtain ⟨k, _, rfl⟩ := List.mem_map.mp hn
      exact ⟨Int.fmod_nonneg_of_pos _ (by decide), Int.fmod_lt_of_pos _ (by decide)⟩
    · simp only [List.mem_cons, List.not_mem_nil, or_false] at hn
      omega


def LJ (st nums : Addr) (ws : List Value) (i : Nat) (m : Str → Option Value) (nw : List (Addr × Obj)) : Prop :=
  ∃ (k : Int) (t : Tok) (u : Str → Option Value), nw = [(st, stO nums k t), (nums, listOf ws.toArray 0)] ∧ 0 ≤ k ∧ k ≤ 12 * (i : Int) ∧ m = fun y => if y = Str.ofString "state" then some (.ref st) else u y

theorem frame_state {m : Str → Option Value} {st : Addr} (h : m (Str.ofString "state") = some (.ref st)) : m = fun y => if y = Str.ofString "state" then some (.ref st) else m y := by
  funext y
  by_cases e : y = Str.ofString "state"
  · rw [if_pos e, e, h]
  · rw [if_neg e]

theorem turn_end {h₀ h' : Heap} {L I st nums : Addr} {it : Obj} {s₁ : Shared} {tk : Nat} {m' : Str → Option Value} {all : List (Addr × Obj)} {k : Int} {t : Tok} {ws : List Value} {i : Nat}
    (F : Fr h₀ L h' m') (N : News h₀ L h' all) (hm : m' (Str.ofString "state") = some (.ref st)) (hI : (I, it) ∈ all) (h1 : (st, stO nums k t) ∈ all) (h2 : (nums, listOf ws.toArray 0) ∈ all) (o1 : @Ne Nat st I) (o2 : @Ne Nat nums I) (k0 : 0 ≤ k) (k1 : k ≤ 12 * (i : Int) + 12) :
    UnrEnd h₀ L s₁ I it (LJ st nums ws (i + 1)) { s₁ with heap := h', toks := tk } := by
  refine ⟨h', tk, m', [(st, stO nums k t), (nums, listOf ws.toArray 0)], rfl, F, fun p hp => ?_, fun p hp => ?_, k, t, m', rfl, k0, by omega, frame_state hm⟩
  · rcases List.mem_cons.mp hp with rfl | hp
    · exact N _ hI
    · rcases List.mem_cons.mp hp with rfl | hp
      · exact N _ h1
      · rw [List.mem_singleton.mp hp]; exact N _ h2
  · rcases List.mem_cons.mp hp with rfl | hp
    · exact o1
    · rw [List.mem_singleton.mp hp]; exact o2

theorem law_rest {prog : Program} {w : World} {A : Around} {E : Value → Shared → Prop} {h₀ : Heap} {env : Env} {body : List Stmt} {Q : Flow → Shared → Prop} {s : Shared} {I st nums : Addr} {t0 : Tok} {ws : List Value} {m₀ : Str → Option Value} {news : List (Addr × Obj)}
    (hm : m₀ (Str.ofString "state") = some (.ref st)) (h1 : (st, stO nums 0 t0) ∈ news) (h2 : (nums, listOf ws.toArray 0) ∈ news) (hw : Nums ws) (hne : @Ne Nat st nums) (o1 : @Ne Nat st I) (o2 : @Ne Nat nums I)
    (turn : ∀ (i : Nat) (k : Int) (t : Tok) (u : Str → Option Value) (tt : Tok) h tk, i < 4 → 0 ≤ k → k ≤ 12 * (i : Int) → Nums ws → @Ne Nat st nums → @Ne Nat st I → @Ne Nat nums I →
      Fr h₀ env.locals h (fun y => if y = Str.ofString "turn" then some (.int (0 + (i : Int)) tt) else if y = Str.ofString "state" then some (.ref st) else u y) →
      News h₀ env.locals h [(I, itR (0 + ((i + 1 : Nat) : Int)) (((4 : Nat) : Int) - ((i + 1 : Nat) : Int))), (st, stO nums k t), (nums, listOf ws.toArray 0)] →
      wpAny (model prog w) A (execs body env) (UnrPost h₀ env.locals { s with heap := h, toks := tk } I (itR (0 + ((i + 1 : Nat) : Int)) (((4 : Nat) : Int) - ((i + 1 : Nat) : Int))) (LJ st nums ws (i + 1)) Q) E { s with heap := h, toks := tk })
    (fin : ∀ (k : Int) (t : Tok) (u : Str → Option Value) h tk, 0 ≤ k → k ≤ 48 → Nums ws → @Ne Nat st nums → Fr h₀ env.locals h (fun y => if y = Str.ofString "state" then some (.ref st) else u y) → News h₀ env.locals h [(st, stO nums k t), (nums, listOf ws.toArray 0)] → Q .next { s with heap := h, toks := tk }) :
    RangeRest prog w A E h₀ env (Str.ofString "turn") body Q s I 0 4 4 0 m₀ news := by
  have key : ∀ (j i : Nat) (m : Str → Option Value) (nw : List (Addr × Obj)), i + j = 4 → LJ st nums ws i m nw → RangeRest prog w A E h₀ env (Str.ofString "turn") body Q s I 0 4 j i m nw := by
    intro j
    induction j with
    | zero =>
      rintro i m nw e ⟨k, t, u, rfl, k0, k1, rfl⟩
      exact RangeRest.zero fun h tk F N => fin k t u h tk k0 (by omega) hw hne F N
    | succ j ih =>
      rintro i m nw e ⟨k, t, u, rfl, k0, k1, rfl⟩
      refine RangeRest.succ fun tt h tk F N => wpAny_mono (turn i k t u tt h tk (by omega) k0 k1 hw hne o1 o2 F N) (fun f s₂ hf => ?_) fun _ _ e => e
      have go : ∀ {s₂}, UnrEnd h₀ env.locals { s with heap := h, toks := tk } I (itR (0 + ((i + 1 : Nat) : Int)) (((4 : Nat) : Int) - ((i + 1 : Nat) : Int))) (LJ st nums ws (i + 1)) s₂ → UnrEnd h₀ env.locals { s with heap := h, toks := tk } I (itR (0 + ((i + 1 : Nat) : Int)) (((4 : Nat) : Int) - ((i + 1 : Nat) : Int))) (RangeRest prog w A E h₀ env (Str.ofString "turn") body Q s I 0 4 j (i + 1)) s₂ := by
        rintro _ ⟨h', tk', m', news', e', F', N', off, hJ⟩
        exact ⟨h', tk', m', news', e', F', N', off, ih (i + 1) m' news' (by omega) hJ⟩
      cases f with
      | next => exact go hf
      | cont => exact go hf
      | brk => exact hf
      | ret v => exact hf
  -- what the loop needs of what stands ahead of it
  have weak : ∀ (j i : Nat) (m : Str → Option Value) {nw nw' : List (Addr × Obj)}, (∀ p ∈ nw', p ∈ nw) → RangeRest prog w A E h₀ env (Str.ofString "turn") body Q s I 0 4 j i m nw' → RangeRest prog w A E h₀ env (Str.ofString "turn") body Q s I 0 4 j i m nw := by
    intro j
    cases j with
    | zero => intro i m nw nw' hs h; exact fun h' tk F N => h h' tk F fun p hp => N p (hs p hp)
    | succ j =>
      intro i m nw nw' hs h
      refine fun t h' tk F N => h t h' tk F fun p hp => ?_
      rcases List.mem_cons.mp hp with rfl | hp
      · exact N _ (.head _)
      · exact N p (.tail _ (hs p hp))
  refine weak 4 0 m₀ (nw' := [(st, stO nums 0 t0), (nums, listOf ws.toArray 0)]) (fun p hp => ?_) (key 4 0 m₀ _ rfl ⟨0, t0, m₀, rfl, by omega, by omega, frame_state hm⟩)
  rcases List.mem_cons.mp hp with rfl | hp
  · exact h1
  · rw [List.mem_singleton.mp hp]; exact h2

theorem dec_same {l : List Nat} (h : l.all (· != 37) = true) : Dec l l := by
  induction l with
  | nil => exact .nil
  | cons c r ih =>
    rw [List.all_cons, Bool.and_eq_true] at h
    exact .sign (by simpa using h.1) (ih h.2)
end Mine
end

section
open PySem PySem.W PyProof.Rows PySem.Calls PySem.Spec
namespace Mine

/-- the law's own text, out of the program -/
def lawDef : Stmt := (Challenge.pw_ez0344_01.main.body.getLast?).getD (.Pass ⟨0, 0, 0, 0⟩)
def lawBody : List Stmt := match lawDef with | .FunctionDef _ _ b _ _ _ _ _ _ _ => b | _ => []
def lawScope : Scope := match lawDef with | .FunctionDef _ _ _ _ _ _ s _ _ _ => s | _ => default
def turnBody : List Stmt := match lawBody with | _ :: .For _ _ b _ _ :: _ => b | _ => []
def tailBody : List Stmt := match lawBody with | _ :: _ :: r => r | _ => []

def TurnC (w : World) (p : Program) (loose : List Str) (mean : ExcName → Option Value) (mg mb : Str → Option Value) : Prop :=
  ∀ (sc : Scope) (body : List Stmt), sc = lawScope → body = turnBody → ∀ (a : Addr) (ccd : Value) (h₀ : Heap) (L : Addr) (s : Shared) (Q : Flow → Shared → Prop) (E : Value → Shared → Prop) (I st nums : Addr) (it : Obj) (ws : List Value) (i : Nat) (k : Int) (t tt : Tok) (u : Str → Option Value) (h : Heap) (tk : Nat),
    Below callerA h₀ [] h₀ → (hd.heap_39 w.params).In h₀ → Top p loose mean mg mb h₀ → i < 4 → 0 ≤ k → k ≤ 12 * (i : Int) → Nums ws → @Ne Nat st nums → @Ne Nat st I → @Ne Nat nums I →
    Fr h₀ L h (fun y => if y = Str.ofString "turn" then some (.int (0 + (i : Int)) tt) else if y = Str.ofString "state" then some (.ref st) else u y) → News h₀ L h [(I, it), (st, stO nums k t), (nums, listOf ws.toArray 0)] →
    wpAny (model Challenge.rw_ez0344_01.row.prog w) (callerA.deeper (envOf (Str.ofString "law") sc L a ccd)) (execs body (envOf (Str.ofString "law") sc L a ccd)) (UnrPost h₀ L { s with heap := h, toks := tk } I it (LJ st nums ws (i + 1)) Q) E { s with heap := h, toks := tk }

theorem told_short {ps : List Str} (hm : ∀ q ∈ ps, q ∈ menu) (h5 : ps.length ≤ 5) : (joinS (ps.map toldP)).length ≤ 100 := by
  have e : (joinS (ps.map toldP)).length = ((ps.map toldP).map fun q => q.length).sum := by
    show (joinS (ps.map toldP)).cps.size = _
    rw [← Array.length_toList, join_cps, List.length_flatMap]
    rfl
  have h := sum_le (f := fun q => (toldP q).length) fun q hq => told_len q (hm q hq)
  rw [List.map_map] at e
  rw [e]
  show (List.map (fun q => (toldP q).length) ps).sum ≤ 100
  omega
theorem told_line {ps : List Str} (hm : ∀ q ∈ ps, q ∈ menu) (h5 : ps.length ≤ 5) : (joinS (ps.map toldP)).length ≤ sizeLine := by
  have h := told_short hm h5
  rw [PySem.sizeLine_eq]; omega
theorem bne_self (x : Str) : ¬ ((x != x) = true) := by simp
theorem beq_self (x : Str) : (x == x) = true := by simp
theorem app_x (x : Str) : ¬ ((x == x ++ Str.ofString "x") = true) := by
  intro h
  have h1 := congrArg (fun z => z.cps.size) (eq_of_beq h)
  simp only [Str.cps_append, Array.size_append] at h1
  have h2 : (Str.ofString "x").cps.size = 1 := by decide +kernel
  omega
theorem not_beq_self (x : Str) : ¬ ((!(x == x)) = true) := by simp
theorem told_x {ps : List Str} (hm : ∀ q ∈ ps, q ∈ menu) (h5 : ps.length ≤ 5) : (joinS (ps.map toldP)).length + (Str.ofString "x").length ≤ sizeLine := by
  have h := told_short hm h5
  have h2 : (Str.ofString "x").length = 1 := by decide +kernel
  rw [PySem.sizeLine_eq]; omega
theorem alike_sym (x y : Str) : ¬ (((y == x) != (x == y)) = true) := by
  have : (y == x) = (x == y) := by
    rw [Bool.eq_iff_iff]; simp only [beq_iff_eq]; exact ⟨Eq.symm, Eq.symm⟩
  rw [this]; simp
theorem alike_ne (x y : Str) : ¬ (((x == y) != (x == y)) = true) := by simp

end Mine
open Mine
local macro_rules | `(tactic| walk_at "call builtin:str.join") => `(tactic| (k_here; k_dflt (((refine join_list (News.isList (by k_asm) (by k_mem)) (by with_reducible assumption) (join_fits (by with_reducible assumption) (by with_reducible assumption)) ?_); intro _ _))))
local macro_rules | `(tactic| walk_at "call ref") => `(tactic| (k_here; (with_reducible show wpAny _ _ (call (Value.ref 298) _ _) _ _ _); k_dflt ((with_unfolding_all refine' next_use ?k1 ?k2 ?k3 ?k4 ?k5 ?kK ?kU ?kn ?kne ?kw ?k0 ?k9 ?km ?km' ?kd ?ku ?_); (case k1 => k_asm); (case k2 => k_asm); (case k3 => k_asm); (case k4 => k_asm); (case k5 => k_asm); (case kK => first | exact rfl | assumption); (case kU => k_updF); (case kn => k_mem); (case kne => k_ne); (case kw => first | assumption | exact nums_of (by assumption) (by (try simp only [List.length_take]); omega)); (case k0 => omega); (case k9 => omega); (case km => decide); (case km' => decide); (case kd => ktr_room); (case ku => ktr_units); intro r' t' t'' h' tk' F' N' r0' r1'; (try dsimp only at N'); (try dsimp only); (try k_fold))))
local macro_rules | `(tactic| walk_at "call ref") => `(tactic| (k_here; (with_reducible show wpAny _ _ (call (Value.ref 308) _ _) _ _ _); k_dflt (((with_unfolding_all refine' written_use ?k1 ?k2 ?k3 ?k4 ?k5 ?kK ?kne ?kU ?kn ?kw ?k0 ?k9 ?kd ?ku ?_); (case k1 => k_asm); (case k2 => k_asm); (case k3 => k_asm); (case k4 => k_asm); (case k5 => k_asm); (case kK => first | exact rfl | assumption); (case kU => k_updF); (case kn => k_mem); (case kne => k_ne); (case kw => first | assumption | exact nums_of (by assumption) (by (try simp only [List.length_take]); omega)); (case k0 => omega); (case k9 => omega); (case kd => decide); (case ku => decide); intro l' vs' ps' k' t' h' tk' F' N' o1' k0' k1' S' M' P'; (replace o1' := allNeQ_of o1'); (try dsimp only at N'); (try simp only [AllNeQ, and_true] at o1'); (try dsimp only); (try k_fold)))))
local macro_rules | `(tactic| walk_at "call ref") => `(tactic| (k_here; (with_reducible show wpAny _ _ (call (Value.ref 313) _ _) _ _ _); k_dflt (((with_unfolding_all refine' told_use ?k1 ?k2 ?k3 ?k4 ?k5 ?kK ?kn ?kS ?kM ?kP ?kd ?ku ?_); (case k1 => k_asm); (case k2 => k_asm); (case k3 => k_asm); (case k4 => k_asm); (case k5 => k_asm); (case kK => first | exact rfl | assumption); (case kn => k_mem); (case kS => assumption); (case kM => assumption); (case kP => assumption); (case kd => decide); (case ku => decide); intro t' h' tk' F' N'; (try dsimp only); (try k_fold)))))

local macro_rules | `(tactic| walk_at "UnrEnd") => `(tactic| (k_here; k_dflt (((refine' turn_end ?F ?N ?hm ?hI ?h1 ?h2 ?o1 ?o2 ?k0 ?k1); (case F => k_asm); (case N => k_asm); (case hm => with_unfolding_all rfl); (case hI => k_mem); (case h1 => k_mem); (case h2 => k_mem); (case o1 => k_ne); (case o2 => k_ne); (case k0 => omega); (case k1 => omega)))))
local macro_rules | `(tactic| k_enter) => `(tactic| ((with_reducible show codeAny _ _ (Code.call (Value.ref 65) _) _ _); kts_go))
local macro_rules | `(tactic| k_enter) => `(tactic| ((with_reducible show codeAny _ _ (Code.call (Value.ref 50) _) _ _); kts_go))
local macro_rules | `(tactic| k_enter) => `(tactic| ((with_reducible show codeAny _ _ (Code.call (Value.ref 43) _) _ _); kts_go))
local macro_rules | `(tactic| walk_at "getAttr ref") => `(tactic| (k_here; (first | (with_reducible show wpAny _ _ (getAttr (Value.ref _) (Str.ofString "_trval") _) _ _ _) | (with_reducible show wpAny _ _ (getAttr (Value.ref _) (Str.ofString "_uri_decoded_suffix") _) _ _ _)); k_dflt ((refine' get_miss ?k1 ?k2 ?k3 (findObj_missing ?k4 ?k5 ?k6 ?k7) ?k8 ?kc ?k9 ?kD ?kA ?kB ?_); (case k2 => k_inst); (case k1 => k_in); (case k3 => k_is); (case k4 => k_is); (case k5 => k_is); (case k6 => k_get); (case k7 => decide +kernel); (case k8 => k_is); (case kc => k_is); (case k9 => decide +kernel); (case kD => decide +kernel); (case kA => decide +kernel); (case kB => rfl); intro h' tk' e' x')))
local macro_rules | `(tactic| walk_at "noteFrame ref") => `(tactic| (k_here; (with_reducible rename Heap.NewAttrErr _ _ _ _ _ => tX); k_dflt ((refine' caught_own tX.of ?h0 ?F ?N ?K ?XB ?TB ?D ?T0 ?ex ?hv ?hn ?hexc ?hnt ?hsub ?_); (case h0 => (obtain ⟨t9, u9, he9⟩ := tX.there; exact ⟨_, _, _, he9, rfl, rfl⟩)); (case F => k_asm); (case N => k_asm); (case K => assumption); (case XB => assumption); (case TB => assumption); (case D => assumption); (case T0 => first | assumption | exact KtsTurn.refl); (case ex => k_is); (case hv => boot_by_name); (case hn => decide); (case hexc => kts_sub); (case hnt => (rw [isSubtype_type]; kernel_rfl)); (case hsub => kts_sub); intro h' g' T' F' N' K' X' P' D'; (try k_sweep))))
local macro_rules | `(tactic| walk_at "getAttr ref") => `(tactic| (k_here; (with_reducible show wpAny _ _ (getAttr (Value.ref _) (Str.ofString "trval") _) _ _ _); k_dflt (((with_unfolding_all refine' trval_use ?k1 ?k2 ?k3 ?k4 ?k5 ?XB ?TB ?D ?T0 ?kK ?kx ?kU ?kne ?kd ?kl ?kdp ?kun ?_); (case k1 => k_asm); (case k2 => k_asm); (case k3 => k_asm); (case k4 => k_asm); (case k5 => k_asm); (case XB => assumption); (case TB => assumption); (case D => assumption); (case T0 => first | assumption | exact KtsTurn.refl); (case kK => first | exact rfl | assumption); (case kx => k_mem); (case kU => k_updF); (case kne => k_ne); (case kd => first | exact join_dec (by assumption) | exact dec_same (by decide +kernel)); (case kl => first | exact join_len (by assumption) (by assumption) | decide +kernel); (case kdp => first | decide | ktr_room); (case kun => first | decide | ktr_units); intro t9 h9 tk9 g9 t59 t69 t79 t89 T9 F9 N9 B9 X9 P9 D9; (try dsimp only at N9); (try dsimp only); (try k_fold)))))
local macro_rules | `(tactic| walk_at "getAttr ref") => `(tactic| (k_here; (with_reducible show wpAny _ _ (getAttr (Value.ref _) (Str.ofString "trval") _) _ _ _); k_dflt (((with_unfolding_all refine' trval_use0 ?k1 ?k2 ?k3 ?k4 ?k5 ?XB ?TB ?kK ?kx ?kU ?kne ?kd ?kl ?kdp ?kun ?_); (case k1 => k_asm); (case k2 => k_asm); (case k3 => k_asm); (case k4 => k_asm); (case k5 => k_asm); (case XB => assumption); (case TB => assumption); (case kK => first | exact rfl | assumption); ((case kx => k_mem)); ((case kU => k_updF)); ((case kne => k_ne)); ((case kd => first | exact join_dec (by assumption) | exact dec_same (by decide +kernel))); ((case kl => first | exact join_len (by assumption) (by assumption) | decide +kernel)); (case kdp => first | decide | ktr_room); (case kun => first | decide | ktr_units); intro t9 h9 tk9 t59 t69 t79 t89 F9 N9; (try dsimp only at N9); (try dsimp only); (try k_fold)))))
local macro_rules | `(tactic| walk_at "getAttr ref") => `(tactic| (k_here; (with_reducible show wpAny _ _ (getAttr (Value.ref _) (Str.ofString "trval") _) _ _ _); k_dflt (((with_unfolding_all refine' hit_use ?k1 ?k2 ?k3 ?k4 ?k5 ?kK ?kx ?kU ?kne ?kdp ?kun ?_); (case k1 => k_asm); (case k2 => k_asm); (case k3 => k_asm); (case k4 => k_asm); (case k5 => k_asm); (case kK => first | exact rfl | assumption); (case kx => k_mem); (case kU => k_mem); (case kne => k_ne); (case kdp => first | decide | ktr_room); (case kun => first | decide | ktr_units); intro h9 tk9 F9 N9; (try dsimp only); (try k_fold)))))

local macro_rules | `(tactic| walk_at "formatField str") => `(tactic| (k_dflt (((refine formatField_str ?_ (told_line (by with_reducible assumption) (by with_reducible assumption)); intro _ _)))))
local macro_rules | `(tactic| walk_at "ite") => `(tactic| first | rw [if_neg (bne_self _)] | rw [if_pos (beq_self _)] | rw [if_neg (app_x _)] | rw [if_neg (not_beq_self _)] | rw [if_neg (alike_ne _ _)] | rw [if_neg (alike_sym _ _)])
local macro_rules | `(tactic| walk_at "binaryOp Add str str") => `(tactic| (k_dflt (((refine PyProof.Rows.add_str ?_ (told_x (by with_reducible assumption) (by with_reducible assumption)); intro _ _)))))

local macro_rules | `(tactic| walk_at "callWith ref") => `(tactic| (k_here; (with_reducible show wpAny _ _ (callWith _ (Value.ref 69) _ _ _) _ _ _); k_dflt ((refine' callWith_KW0 ?k1 ?k2 ?k3 ?_; (case k1 => k_in); (case k2 => k_is); (case k3 => exact rfl); k_whole))))

set_option maxHeartbeats 8000000 in
theorem Mine.turn_c (w : World) (p : Program) (loose : List Str) (mean : ExcName → Option Value) (mg mb : Str → Option Value) : TurnC w p loose mean mg mb := by
  intro sc body hsc hbody a ccd h₀ L s Q E I st nums it ws i k t tt u h tk B X T hi hk0 hk1 hw hne ho1 ho2 F N
  conv at hsc => rhs; whnf
  conv at hbody => rhs; whnf
  subst hsc hbody
  have hfill : PySem.Challenge.rw_ez0344_01.prog = PySem.Challenge.rw_ez0344_01.prog := rfl
  revert X hfill
  k_fill
  intro X hfill
  clear hfill
  (try k_fold)
  k_steps
end

section
open PySem PySem.W PyProof.Rows PySem.Calls PySem.Spec
namespace Mine
open Builtin Builtin.ObjectAttr

section
variable {prog : Program} {w : World} {A : Around} {E : Value → Shared → Prop} {s : Shared} {K : Frag} {x C : Addr} {ox : Obj} {od : Option Obj} {name : Str} {expr : Bool}

theorem hooked_miss {t : Tok} {Q : Fin → Shared → Prop} (X : K.In s.heap) (I : InstAt s.heap x ox C od)
    (hf : findObj K C od name = some .missing) (hk : findIn K (.ref C) "__getattr__" = some none) {cd : ClassData} (hc : clsIn K C = some cd) (hcn1 : cd.name.cps.foldl (fun k c => k + (Str.utf8Of c).length) 0 ≤ 100) (hcn2 : cd.name.toString.length ≤ 100) (hsz : name.length ≤ 1000) (hA : A.handled = none)
    (h : ∀ h' tk e, Heap.NewAttrErr s.heap h' e (.ref x) name → E (.ref e) { s with heap := h', toks := tk }) :
    wpAny (model prog w) A (Builtin.«proto.getattr_hooked» ⟨[.ref x, .str name t], []⟩) Q E s := by
  obtain ⟨hh', gg, d, t, os⟩ := s
  have L0 := I.type (M := model prog w)
  have L1 := looks_find (M := model prog w) X I hf
  have L2 := looks_findIn (M := model prog w) X hk
  have L3 := looks_clsIn (M := model prog w) X hc
  refine wpAny_bind (wpAny_pure (wpAny_bind (L0.at (wpAny_bind (L1.at (wpAny_bind (L2.at ?_)))))))
  show wpAny _ _ (noSuchAttribute (.ref x) name) _ _ _
  unfold noSuchAttribute
  refine wpAny_bind ?_
  unfold typeNameOfCut shownTypeOf
  refine wpAny_bind (wpAny_bind (L0.at ?_))
  refine wpAny_pure ?_
  show wpAny _ _ (typeNameCut 100 (.ref C)) _ _ _
  unfold typeNameCut
  refine wpAny_bind (L3.at ?_)
  dsimp only
  rw [if_pos hcn1]
  refine wpAny_pure ?_
  refine wpAny_raiseAttrError hA (fun h' tk e hx => h _ _ _ hx) ?_
  rw [sizeLine_eq]
  rw [strLen_append, strLen_append]
  have e1 : (Str.ofString "'").length = 1 := by decide +kernel
  rw [e1, PySem.ofString_length]
  have e2 : (toString "'" ++ toString cd.name.toString ++ toString "' object has no attribute '" : String).length ≤ 130 := by
    show ("'" ++ cd.name.toString ++ "' object has no attribute '" : String).length ≤ 130
    rw [String.length_append, String.length_append]
    have e3 : ("'" : String).length = 1 := by decide +kernel
    have e4 : ("' object has no attribute '" : String).length = 27 := by decide +kernel
    omega
  omega

theorem by_miss {t : Tok} {Q : Value → Shared → Prop} (X : K.In s.heap) (I : InstAt s.heap x ox C od) (hga : findIn K (.ref C) "__getattribute__" = some (some (.builtin "object.__getattribute__")))
    (hf : findObj K C od name = some .missing) (hk : findIn K (.ref C) "__getattr__" = some none) {cd : ClassData} (hc : clsIn K C = some cd) (hcn1 : cd.name.cps.foldl (fun k c => k + (Str.utf8Of c).length) 0 ≤ 100) (hcn2 : cd.name.toString.length ≤ 100) (hsz : name.length ≤ 1000) (hA : A.handled = none)
    (h : ∀ h' tk e, Heap.NewAttrErr s.heap h' e (.ref x) name → E (.ref e) { s with heap := h', toks := tk }) :
    wpAny (model prog w) A (getAttrBy (.ref x) (.str name t) false expr) Q E s := by
  have H := hooked_miss (prog := prog) (w := w) (A := A.in1) (t := t) (Q := fun fin s' => match fin with | .done (.ret v) => wpAny (model prog w) A (handedOut v) Q E s' | _ => False) X I hf hk hc hcn1 hcn2 hsz (by exact hA) h
  obtain ⟨hh, g, d, tk, os⟩ := s
  have L0 := I.type (M := model prog w)
  have L1 := looks_findIn (M := model prog w) X hga
  unfold getAttrBy
  refine wpAny_holding (wpAny_bind (L0.at (wpAny_bind (L1.at ?_))))
  show wpAny _ _ (getAttrEveryday _ _ _) _ _ _
  refine wpAny_bind (wpAny_onRaise (wpAny_runValue (codeAny_builtin F.plainObj_entry_getattr_hooked (wpAny_mono H (fun fin s' z => ?_) fun _ _ z => wpAny_pure z))))
  rcases fin with (_ | _ | _ | _) | _ <;> first | exact z | exact z.elim

theorem args_getattr_3 (a b c : Value) : argsOk "getattr" ⟨[a, b, c], []⟩ := by unfold argsOk; kernel_rfl

theorem getattr3_miss {h₀ : Heap} {L : Addr} {m : Str → Option Value} {news : List (Addr × Obj)} {t : Tok} {dflt : Value} {Q : Value → Shared → Prop} (F : Fr h₀ L s.heap m) (N : News h₀ L s.heap news) (X : K.In s.heap) (I : InstAt s.heap x ox C od) (hga : findIn K (.ref C) "__getattribute__" = some (some (.builtin "object.__getattribute__")))
    (hf : findObj K C od name = some .missing) (hk : findIn K (.ref C) "__getattr__" = some none) {cd : ClassData} (hc : clsIn K C = some cd) (hcn1 : cd.name.cps.foldl (fun k c => k + (Str.utf8Of c).length) 0 ≤ 100) (hcn2 : cd.name.toString.length ≤ 100) (hsz : name.length ≤ 1000) (hA : A.handled = none)
    (hm : mroIn K C (.type "module") = some false) (hns : (name != Str.ofString "get_source") = true)
    (h : ∀ h' tk, Fr h₀ L h' m → News h₀ L h' news → Q dflt { s with heap := h', toks := tk }) :
    wpAny (model prog w) A (call (.builtin "getattr") [.ref x, .str name t, dflt]) Q E s := by
  refine Calls.call_function_entry KB.kind_getattr KB.plain_getattr KB.entry_getattr (args_getattr_3 _ _ _) ?_
  have LM : Looks (model prog w) s.heap (isInstance (.ref x) (.type "module")) false := I.type.andThen (looks_mroIn X hm)
  unfold Builtin.«getattr»
  refine wpAny_bind (wpAny_of_eq (a := [.ref x, .str name t, dflt]) (by first | rfl | kernel_rfl) ?_)
  dsimp only
  refine wpAny_bind (wpAny_of_eq (a := ()) (by first | rfl | kernel_rfl) ?_)
  refine wpAny_bind (wpAny_of_eq (a := (none : Option Value)) (by k_delta "loadersGetSource?"; dsimp only; rw [if_pos hns]) ?_)
  dsimp only
  refine wpAny_bind (m := _) ?_
  k_delta "optionalOnAModule"
  try dsimp only
  refine wpAny_bind (wpAny_of_eq (a := some name) (by rfl) ?_)
  dsimp only
  obtain ⟨hh, g, d, tk, os⟩ := s
  refine wpAny_bind (LM.at ?_)
  refine wpAny_pure ?_
  dsimp only
  rw [if_neg (by decide)]
  refine wpAny_bind ?_
  unfold getAttrBy?
  refine wpAny_bind (wpAny_attempt (by_miss X I hga hf hk hc hcn1 hcn2 hsz (by exact hA) fun h' tk e hx => ?_))
  dsimp only
  obtain ⟨t', u', he⟩ := hx.there
  have f1 := sub_AttributeError
  have hT : Looks (model prog w) h' (typeOf (.ref e)) (.type "AttributeError") := (Looks.ld he).andThen .now
  refine wpAny_bind ?_
  unfold isInstance
  refine wpAny_bind (hT.at ?_)
  rw [f1]
  refine wpAny_pure ?_
  rw [if_pos rfl]
  refine wpAny_pure ?_
  dsimp only
  rw [if_neg (by decide)]
  exact wpAny_pure ⟨_, rfl, h h' _ (F.keptAll hx.keeps) (N.grown hx.keeps)⟩
end
end Mine
end

section
open PySem PySem.W PyProof.Rows PySem.Calls PySem.Spec
namespace Mine

def lastBody : List Stmt := match tailBody with | _ :: _ :: _ :: _ :: r => r | _ => []
abbrev loadEs (P : Params) (v1 v2 v3 v4 v5 v6 v7 : Value) (t1 t2 t3 t4 t5 t6 t7 : Tok) : List DictEntry := [ent P "loadumper" t1 v1, ent P "_resolver" t2 v2, ent P "_loader_version" t3 v3, ent P "resolver_exact_paths" t4 v4, ent P "resolver_prefix_paths" t5 v5, ent P "comment_handling" t6 v6, ent P "max_depth" t7 v7]

/-- the law's last line, for one kind of node -/
def EndC (c : Addr) (word : Str) (w : World) (p : Program) (loose : List Str) (mean : ExcName → Option Value) (mg mb : Str → Option Value) : Prop :=
  ∀ (sc : Scope) (body : List Stmt), sc = lawScope → body = lastBody → ∀ (a : Addr) (ccd : Value) (h₀ : Heap) (L : Addr) (s : Shared) (Q : Flow → Shared → Prop) (E : Value → Shared → Prop) (x dx kl : Addr) (v1 v2 v3 v4 v5 v6 v7 : Value) (t1 t2 t3 t4 t5 t6 t7 tw : Tok) (u : Str → Option Value),
    Below callerA h₀ [] h₀ → (hd.heap_39 w.params).In h₀ → Top p loose mean mg mb h₀ →
    Fr h₀ L s.heap (fun y => if y = Str.ofString "kind" then some (.ref kl) else if y = Str.ofString "loader" then some (.ref x) else u y) →
    News h₀ L s.heap [(kl, listOf [.ref c, .str word tw].toArray 0), (x, instObj 289 dx), (dx, dictOf (loadEs w.params v1 v2 v3 v4 v5 v6 v7 t1 t2 t3 t4 t5 t6 t7) 7)] →
    (∀ h' tk' m' news', Fr h₀ L h' m' → News h₀ L h' news' → Q (.ret (.bool true)) { s with heap := h', toks := tk' }) →
    wpAny (model Challenge.rw_ez0344_01.row.prog w) (callerA.deeper (envOf (Str.ofString "law") sc L a ccd)) (execs body (envOf (Str.ofString "law") sc L a ccd)) Q E s

theorem q_true {Q : Flow → Shared → Prop} {b : Bool} {s : Shared} (hb : b = true) (h : Q (.ret (.bool true)) s) : Q (.ret (.bool b)) s := hb ▸ h

theorem frame_two {m : Str → Option Value} {kl x : Addr} (h1 : m (Str.ofString "kind") = some (.ref kl)) (h2 : m (Str.ofString "loader") = some (.ref x)) : m = fun y => if y = Str.ofString "kind" then some (.ref kl) else if y = Str.ofString "loader" then some (.ref x) else m y := by
  funext y
  by_cases e : y = Str.ofString "kind"
  · rw [if_pos e, e, h1]
  · rw [if_neg e]
    by_cases e : y = Str.ofString "loader"
    · rw [if_pos e, e, h2]
    · rw [if_neg e]

theorem end_use {w : World} {p : Program} {loose : List Str} {mean : ExcName → Option Value} {mg mb : Str → Option Value} {c : Addr} {word : Str} (H : EndC c word w p loose mean mg mb)
    {sc : Scope} {body : List Stmt} {a : Addr} {ccd : Value} {h₀ : Heap} {L : Addr} {s : Shared} {Q : Flow → Shared → Prop} {E : Value → Shared → Prop} {x dx kl : Addr} {v1 v2 v3 v4 v5 v6 v7 : Value} {t1 t2 t3 t4 t5 t6 t7 tw : Tok} {m : Str → Option Value} {news : List (Addr × Obj)}
    (hsc : sc = lawScope) (hb : body = lastBody) (B : Below callerA h₀ [] h₀) (X : (hd.heap_39 w.params).In h₀) (T : Top p loose mean mg mb h₀) (F : Fr h₀ L s.heap m) (N : News h₀ L s.heap news)
    (m1 : m (Str.ofString "kind") = some (.ref kl)) (m2 : m (Str.ofString "loader") = some (.ref x))
    (n1 : (kl, listOf [.ref c, .str word tw].toArray 0) ∈ news) (n2 : (x, instObj 289 dx) ∈ news) (n3 : (dx, dictOf (loadEs w.params v1 v2 v3 v4 v5 v6 v7 t1 t2 t3 t4 t5 t6 t7) 7) ∈ news)
    (hret : ∀ h' tk' m' news', Fr h₀ L h' m' → News h₀ L h' news' → Q (.ret (.bool true)) { s with heap := h', toks := tk' }) :
    wpAny (model Challenge.rw_ez0344_01.row.prog w) (callerA.deeper (envOf (Str.ofString "law") sc L a ccd)) (execs body (envOf (Str.ofString "law") sc L a ccd)) Q E s := by
  rw [frame_two m1 m2] at F
  refine H sc body hsc hb a ccd h₀ L s Q E x dx kl v1 v2 v3 v4 v5 v6 v7 t1 t2 t3 t4 t5 t6 t7 tw m B X T F (fun q hq => ?_) hret
  rcases List.mem_cons.mp hq with rfl | hq
  · exact N _ n1
  · rcases List.mem_cons.mp hq with rfl | hq
    · exact N _ n2
    · rw [List.mem_singleton.mp hq]; exact N _ n3

end Mine
open Mine

local macro_rules | `(tactic| k_enter) => `(tactic| ((with_reducible show codeAny _ _ (Code.call (Value.ref 65) _) _ _); kts_go))
local macro_rules | `(tactic| k_enter) => `(tactic| ((with_reducible show codeAny _ _ (Code.call (Value.ref 50) _) _ _); kts_go))
local macro_rules | `(tactic| k_enter) => `(tactic| ((with_reducible show codeAny _ _ (Code.call (Value.ref 43) _) _ _); kts_go))
local macro_rules | `(tactic| walk_at "getAttr ref") => `(tactic| (k_here; (first | (with_reducible show wpAny _ _ (getAttr (Value.ref _) (Str.ofString "_trval") _) _ _ _) | (with_reducible show wpAny _ _ (getAttr (Value.ref _) (Str.ofString "_uri_decoded_suffix") _) _ _ _)); k_dflt ((refine' get_miss ?k1 ?k2 ?k3 (findObj_missing ?k4 ?k5 ?k6 ?k7) ?k8 ?kc ?k9 ?kD ?kA ?kB ?_); (case k2 => k_inst); (case k1 => k_in); (case k3 => k_is); (case k4 => k_is); (case k5 => k_is); (case k6 => k_get); (case k7 => decide +kernel); (case k8 => k_is); (case kc => k_is); (case k9 => decide +kernel); (case kD => decide +kernel); (case kA => decide +kernel); (case kB => rfl); intro h' tk' e' x')))
local macro_rules | `(tactic| walk_at "noteFrame ref") => `(tactic| (k_here; (with_reducible rename Heap.NewAttrErr _ _ _ _ _ => tX); k_dflt ((refine' caught_own tX.of ?h0 ?F ?N ?K ?XB ?TB ?D ?T0 ?ex ?hv ?hn ?hexc ?hnt ?hsub ?_); (case h0 => (obtain ⟨t9, u9, he9⟩ := tX.there; exact ⟨_, _, _, he9, rfl, rfl⟩)); (case F => k_asm); (case N => k_asm); (case K => assumption); (case XB => assumption); (case TB => assumption); (case D => assumption); (case T0 => first | assumption | exact KtsTurn.refl); (case ex => k_is); (case hv => boot_by_name); (case hn => decide); (case hexc => kts_sub); (case hnt => (rw [isSubtype_type]; kernel_rfl)); (case hsub => kts_sub); intro h' g' T' F' N' K' X' P' D'; (try k_sweep))))
local macro_rules | `(tactic| walk_at "getAttr ref") => `(tactic| (k_here; (with_reducible show wpAny _ _ (getAttr (Value.ref _) (Str.ofString "trval") _) _ _ _); k_dflt (((with_unfolding_all refine' trval_use ?k1 ?k2 ?k3 ?k4 ?k5 ?XB ?TB ?D ?T0 ?kK ?kx ?kU ?kne ?kd ?kl ?kdp ?kun ?_); (case k1 => k_asm); (case k2 => k_asm); (case k3 => k_asm); (case k4 => k_asm); (case k5 => k_asm); (case XB => assumption); (case TB => assumption); (case D => assumption); (case T0 => first | assumption | exact KtsTurn.refl); (case kK => first | exact rfl | assumption); (case kx => k_mem); (case kU => k_updF); (case kne => k_ne); (case kd => exact dec_same (by decide +kernel)); (case kl => decide +kernel); (case kdp => first | decide | ktr_room); (case kun => first | decide | ktr_units); intro t9 h9 tk9 g9 t59 t69 t79 t89 T9 F9 N9 B9 X9 P9 D9; (try dsimp only at N9); (try dsimp only); (try k_fold)))))
local macro_rules | `(tactic| walk_at "getAttr ref") => `(tactic| (k_here; (with_reducible show wpAny _ _ (getAttr (Value.ref _) (Str.ofString "trval") _) _ _ _); k_dflt (((with_unfolding_all refine' trval_use0 ?k1 ?k2 ?k3 ?k4 ?k5 ?XB ?TB ?kK ?kx ?kU ?kne ?kd ?kl ?kdp ?kun ?_); (case k1 => k_asm); (case k2 => k_asm); (case k3 => k_asm); (case k4 => k_asm); (case k5 => k_asm); (case XB => assumption); (case TB => assumption); (case kK => first | exact rfl | assumption); ((case kx => k_mem)); ((case kU => k_updF)); ((case kne => k_ne)); ((case kd => exact dec_same (by decide +kernel))); ((case kl => decide +kernel)); (case kdp => first | decide | ktr_room); (case kun => first | decide | ktr_units); intro t9 h9 tk9 t59 t69 t79 t89 F9 N9; (try dsimp only at N9); (try dsimp only); (try k_fold)))))
local macro_rules | `(tactic| walk_at "getAttr ref") => `(tactic| (k_here; (with_reducible show wpAny _ _ (getAttr (Value.ref _) (Str.ofString "trval") _) _ _ _); k_dflt (((with_unfolding_all refine' hit_use ?k1 ?k2 ?k3 ?k4 ?k5 ?kK ?kx ?kU ?kne ?kdp ?kun ?_); (case k1 => k_asm); (case k2 => k_asm); (case k3 => k_asm); (case k4 => k_asm); (case k5 => k_asm); (case kK => first | exact rfl | assumption); (case kx => k_mem); (case kU => k_mem); (case kne => k_ne); (case kdp => first | decide | ktr_room); (case kun => first | decide | ktr_units); intro h9 tk9 F9 N9; (try dsimp only); (try k_fold)))))

local macro_rules | `(tactic| walk_at "formatField str") => `(tactic| (k_dflt (((refine formatField_str ?_ (by decide +kernel); intro _ _)))))
local macro_rules | `(tactic| walk_at "ite") => `(tactic| first | rw [if_neg (by decide +kernel)] | rw [if_pos (by decide +kernel)])
local macro_rules | `(tactic| walk_at "binaryOp Add str str") => `(tactic| (k_dflt (((refine PyProof.Rows.add_str ?_ (by decide +kernel); intro _ _)))))

local macro_rules | `(tactic| walk_at "callWith ref") => `(tactic| (k_here; (with_reducible show wpAny _ _ (callWith _ (Value.ref 69) _ _ _) _ _ _); k_dflt ((refine' callWith_KW0 ?k1 ?k2 ?k3 ?_; (case k1 => k_in); (case k2 => k_is); (case k3 => exact rfl); k_whole))))

set_option maxHeartbeats 8000000 in
theorem Mine.end_str (w : World) (p : Program) (loose : List Str) (mean : ExcName → Option Value) (mg mb : Str → Option Value) : EndC 129 (Str.ofString "str") w p loose mean mg mb := by
  intro sc body hsc hbody a ccd h₀ L s Q E x dx kl v1 v2 v3 v4 v5 v6 v7 t1 t2 t3 t4 t5 t6 t7 tw u B X T F N hret
  conv at hsc => rhs; whnf
  conv at hbody => rhs; whnf
  subst hsc hbody
  have hfill : PySem.Challenge.rw_ez0344_01.prog = PySem.Challenge.rw_ez0344_01.prog := rfl
  revert X hfill
  k_fill
  intro X hfill
  clear hfill
  (try k_fold)
  k_steps
  refine q_true (by decide +kernel) (hret _ _ _ _ (by assumption) (by assumption))
set_option maxHeartbeats 8000000 in
theorem Mine.end_seq (w : World) (p : Program) (loose : List Str) (mean : ExcName → Option Value) (mg mb : Str → Option Value) : EndC 167 (Str.ofString "seq") w p loose mean mg mb := by
  intro sc body hsc hbody a ccd h₀ L s Q E x dx kl v1 v2 v3 v4 v5 v6 v7 t1 t2 t3 t4 t5 t6 t7 tw u B X T F N hret
  conv at hsc => rhs; whnf
  conv at hbody => rhs; whnf
  subst hsc hbody
  have hfill : PySem.Challenge.rw_ez0344_01.prog = PySem.Challenge.rw_ez0344_01.prog := rfl
  revert X hfill
  k_fill
  intro X hfill
  clear hfill
  (try k_fold)
  k_steps
  refine q_true (by decide +kernel) (hret _ _ _ _ (by assumption) (by assumption))
set_option maxHeartbeats 8000000 in
theorem Mine.end_map (w : World) (p : Program) (loose : List Str) (mean : ExcName → Option Value) (mg mb : Str → Option Value) : EndC 189 (Str.ofString "map") w p loose mean mg mb := by
  intro sc body hsc hbody a ccd h₀ L s Q E x dx kl v1 v2 v3 v4 v5 v6 v7 t1 t2 t3 t4 t5 t6 t7 tw u B X T F N hret
  conv at hsc => rhs; whnf
  conv at hbody => rhs; whnf
  subst hsc hbody
  have hfill : PySem.Challenge.rw_ez0344_01.prog = PySem.Challenge.rw_ez0344_01.prog := rfl
  revert X hfill
  k_fill
  intro X hfill
  clear hfill
  (try k_fold)
  k_steps
  refine q_true (by decide +kernel) (hret _ _ _ _ (by assumption) (by assumption))
end

section
open PySem PySem.W PyProof.Rows PySem.Calls PySem.Spec
namespace Mine

def TailC (w : World) (p : Program) (loose : List Str) (mean : ExcName → Option Value) (mg mb : Str → Option Value) : Prop :=
  ∀ (sc : Scope) (body : List Stmt), sc = lawScope → body = tailBody → ∀ (a : Addr) (ccd : Value) (h₀ : Heap) (L : Addr) (s : Shared) (Q : Flow → Shared → Prop) (E : Value → Shared → Prop) (st nums : Addr) (ws : List Value) (k : Int) (t : Tok) (u : Str → Option Value),
    Below callerA h₀ [] h₀ → (hd.heap_39 w.params).In h₀ → Top p loose mean mg mb h₀ → 0 ≤ k → k ≤ 48 → Nums ws → @Ne Nat st nums →
    Fr h₀ L s.heap (fun y => if y = Str.ofString "state" then some (.ref st) else u y) → News h₀ L s.heap [(st, stO nums k t), (nums, listOf ws.toArray 0)] →
    (∀ h' tk' m' news', Fr h₀ L h' m' → News h₀ L h' news' → Q (.ret (.bool true)) { s with heap := h', toks := tk' }) →
    wpAny (model Challenge.rw_ez0344_01.row.prog w) (callerA.deeper (envOf (Str.ofString "law") sc L a ccd)) (execs body (envOf (Str.ofString "law") sc L a ccd)) Q E s

end Mine
open Mine
local macro_rules | `(tactic| walk_at "call ref") => `(tactic| (k_here; (with_reducible show wpAny _ _ (call (Value.ref 298) _ _) _ _ _); k_dflt ((with_unfolding_all refine' next_use ?k1 ?k2 ?k3 ?k4 ?k5 ?kK ?kU ?kn ?kne ?kw ?k0 ?k9 ?km ?km' ?kd ?ku ?_); (case k1 => k_asm); (case k2 => k_asm); (case k3 => k_asm); (case k4 => k_asm); (case k5 => k_asm); (case kK => first | exact rfl | assumption); (case kU => k_updF); (case kn => k_mem); (case kne => k_ne); (case kw => first | assumption | exact nums_of (by assumption) (by (try simp only [List.length_take]); omega)); (case k0 => omega); (case k9 => omega); (case km => decide); (case km' => decide); (case kd => ktr_room); (case ku => ktr_units); intro r' t' t'' h' tk' F' N' r0' r1'; (try dsimp only at N'); (obtain rfl | rfl | rfl : r' = 0 ∨ r' = 1 ∨ r' = 2 := by omega); all_goals ((clear r0' r1'); (try dsimp only); (try k_fold)))))

local macro_rules | `(tactic| k_enter) => `(tactic| ((with_reducible show codeAny _ _ (Code.call (Value.ref 65) _) _ _); kts_go))
local macro_rules | `(tactic| k_enter) => `(tactic| ((with_reducible show codeAny _ _ (Code.call (Value.ref 50) _) _ _); kts_go))
local macro_rules | `(tactic| k_enter) => `(tactic| ((with_reducible show codeAny _ _ (Code.call (Value.ref 43) _) _ _); kts_go))
local macro_rules | `(tactic| walk_at "getAttr ref") => `(tactic| (k_here; (first | (with_reducible show wpAny _ _ (getAttr (Value.ref _) (Str.ofString "_trval") _) _ _ _) | (with_reducible show wpAny _ _ (getAttr (Value.ref _) (Str.ofString "_uri_decoded_suffix") _) _ _ _)); k_dflt ((refine' get_miss ?k1 ?k2 ?k3 (findObj_missing ?k4 ?k5 ?k6 ?k7) ?k8 ?kc ?k9 ?kD ?kA ?kB ?_); (case k2 => k_inst); (case k1 => k_in); (case k3 => k_is); (case k4 => k_is); (case k5 => k_is); (case k6 => k_get); (case k7 => decide +kernel); (case k8 => k_is); (case kc => k_is); (case k9 => decide +kernel); (case kD => decide +kernel); (case kA => decide +kernel); (case kB => rfl); intro h' tk' e' x')))
local macro_rules | `(tactic| walk_at "noteFrame ref") => `(tactic| (k_here; (with_reducible rename Heap.NewAttrErr _ _ _ _ _ => tX); k_dflt ((refine' caught_own tX.of ?h0 ?F ?N ?K ?XB ?TB ?D ?T0 ?ex ?hv ?hn ?hexc ?hnt ?hsub ?_); (case h0 => (obtain ⟨t9, u9, he9⟩ := tX.there; exact ⟨_, _, _, he9, rfl, rfl⟩)); (case F => k_asm); (case N => k_asm); (case K => assumption); (case XB => assumption); (case TB => assumption); (case D => assumption); (case T0 => first | assumption | exact KtsTurn.refl); (case ex => k_is); (case hv => boot_by_name); (case hn => decide); (case hexc => kts_sub); (case hnt => (rw [isSubtype_type]; kernel_rfl)); (case hsub => kts_sub); intro h' g' T' F' N' K' X' P' D'; (try k_sweep))))
local macro_rules | `(tactic| walk_at "getAttr ref") => `(tactic| (k_here; (with_reducible show wpAny _ _ (getAttr (Value.ref _) (Str.ofString "trval") _) _ _ _); k_dflt (((with_unfolding_all refine' trval_use ?k1 ?k2 ?k3 ?k4 ?k5 ?XB ?TB ?D ?T0 ?kK ?kx ?kU ?kne ?kd ?kl ?kdp ?kun ?_); (case k1 => k_asm); (case k2 => k_asm); (case k3 => k_asm); (case k4 => k_asm); (case k5 => k_asm); (case XB => assumption); (case TB => assumption); (case D => assumption); (case T0 => first | assumption | exact KtsTurn.refl); (case kK => first | exact rfl | assumption); (case kx => k_mem); (case kU => k_updF); (case kne => k_ne); (case kd => exact dec_same (by decide +kernel)); (case kl => decide +kernel); (case kdp => first | decide | ktr_room); (case kun => first | decide | ktr_units); intro t9 h9 tk9 g9 t59 t69 t79 t89 T9 F9 N9 B9 X9 P9 D9; (try dsimp only at N9); (try dsimp only); (try k_fold)))))
local macro_rules | `(tactic| walk_at "getAttr ref") => `(tactic| (k_here; (with_reducible show wpAny _ _ (getAttr (Value.ref _) (Str.ofString "trval") _) _ _ _); k_dflt (((with_unfolding_all refine' trval_use0 ?k1 ?k2 ?k3 ?k4 ?k5 ?XB ?TB ?kK ?kx ?kU ?kne ?kd ?kl ?kdp ?kun ?_); (case k1 => k_asm); (case k2 => k_asm); (case k3 => k_asm); (case k4 => k_asm); (case k5 => k_asm); (case XB => assumption); (case TB => assumption); (case kK => first | exact rfl | assumption); ((case kx => k_mem)); ((case kU => k_updF)); ((case kne => k_ne)); ((case kd => exact dec_same (by decide +kernel))); ((case kl => decide +kernel)); (case kdp => first | decide | ktr_room); (case kun => first | decide | ktr_units); intro t9 h9 tk9 t59 t69 t79 t89 F9 N9; (try dsimp only at N9); (try dsimp only); (try k_fold)))))
local macro_rules | `(tactic| walk_at "getAttr ref") => `(tactic| (k_here; (with_reducible show wpAny _ _ (getAttr (Value.ref _) (Str.ofString "trval") _) _ _ _); k_dflt (((with_unfolding_all refine' hit_use ?k1 ?k2 ?k3 ?k4 ?k5 ?kK ?kx ?kU ?kne ?kdp ?kun ?_); (case k1 => k_asm); (case k2 => k_asm); (case k3 => k_asm); (case k4 => k_asm); (case k5 => k_asm); (case kK => first | exact rfl | assumption); (case kx => k_mem); (case kU => k_mem); (case kne => k_ne); (case kdp => first | decide | ktr_room); (case kun => first | decide | ktr_units); intro h9 tk9 F9 N9; (try dsimp only); (try k_fold)))))

local macro_rules | `(tactic| walk_at "formatField str") => `(tactic| (k_dflt (((refine formatField_str ?_ (by decide +kernel); intro _ _)))))
local macro_rules | `(tactic| walk_at "ite") => `(tactic| first | rw [if_neg (by decide +kernel)] | rw [if_pos (by decide +kernel)])
local macro_rules | `(tactic| walk_at "binaryOp Add str str") => `(tactic| (k_dflt (((refine PyProof.Rows.add_str ?_ (by decide +kernel); intro _ _)))))

local macro_rules | `(tactic| walk_at "callWith ref") => `(tactic| (k_here; (with_reducible show wpAny _ _ (callWith _ (Value.ref 69) _ _ _) _ _ _); k_dflt ((refine' callWith_KW0 ?k1 ?k2 ?k3 ?_; (case k1 => k_in); (case k2 => k_is); (case k3 => exact rfl); k_whole))))
local macro_rules | `(tactic| walk_at "call builtin:getattr") => `(tactic| (k_here; k_dflt (((refine' getattr3_miss ?F ?N ?k1 ?k2 ?k3 (findObj_missing ?k4 ?k5 ?k6 ?k7) ?k8 ?kc ?k9 ?kD ?kA ?kB ?km ?kns ?_); (case k2 => k_inst); (case k1 => k_in); (case F => k_asm); (case N => k_asm); (case k3 => k_is); (case k4 => k_is); (case k5 => k_is); (case k6 => k_get); (case k7 => decide +kernel); (case k8 => k_is); (case kc => k_is); (case k9 => decide +kernel); (case kD => decide +kernel); (case kA => decide +kernel); (case kB => rfl); (case km => k_is); (case kns => decide +kernel); intro h' tk' F' N'; (try dsimp only); (try k_fold)))))

local macro_rules | `(tactic| walk_at "execs cons") => `(tactic| ((with_reducible show wpAny _ (Around.deeper callerA _) (execs [Stmt.Return _ _] _) _ _ _); k_dflt (first | (((refine' end_use (end_str _ _ _ _ _ _) ?hsc ?hb ?k1 ?k2 ?k3 ?k4 ?k5 ?m1 ?m2 ?n1 ?n2 ?n3 ?_); (case hsc => with_unfolding_all rfl); (case hb => with_unfolding_all rfl); (case k1 => k_asm); (case k2 => k_asm); (case k3 => k_asm); (case k4 => k_asm); (case k5 => k_asm); (case m1 => with_unfolding_all rfl); (case m2 => with_unfolding_all rfl); (case n1 => k_mem); (case n2 => k_mem); (case n3 => k_mem); (intro h' tk' m' news' F' N'))) | (((refine' end_use (end_seq _ _ _ _ _ _) ?hsc ?hb ?k1 ?k2 ?k3 ?k4 ?k5 ?m1 ?m2 ?n1 ?n2 ?n3 ?_); (case hsc => with_unfolding_all rfl); (case hb => with_unfolding_all rfl); (case k1 => k_asm); (case k2 => k_asm); (case k3 => k_asm); (case k4 => k_asm); (case k5 => k_asm); (case m1 => with_unfolding_all rfl); (case m2 => with_unfolding_all rfl); (case n1 => k_mem); (case n2 => k_mem); (case n3 => k_mem); (intro h' tk' m' news' F' N'))) | (((refine' end_use (end_map _ _ _ _ _ _) ?hsc ?hb ?k1 ?k2 ?k3 ?k4 ?k5 ?m1 ?m2 ?n1 ?n2 ?n3 ?_); (case hsc => with_unfolding_all rfl); (case hb => with_unfolding_all rfl); (case k1 => k_asm); (case k2 => k_asm); (case k3 => k_asm); (case k4 => k_asm); (case k5 => k_asm); (case m1 => with_unfolding_all rfl); (case m2 => with_unfolding_all rfl); (case n1 => k_mem); (case n2 => k_mem); (case n3 => k_mem); (intro h' tk' m' news' F' N'))))))
set_option maxHeartbeats 8000000 in
theorem Mine.tail_c (w : World) (p : Program) (loose : List Str) (mean : ExcName → Option Value) (mg mb : Str → Option Value) : TailC w p loose mean mg mb := by
  intro sc body hsc hbody a ccd h₀ L s Q E st nums ws k t u B X T hk0 hk1 hw hne F N hret
  conv at hsc => rhs; whnf
  conv at hbody => rhs; whnf
  subst hsc hbody
  have hfill : PySem.Challenge.rw_ez0344_01.prog = PySem.Challenge.rw_ez0344_01.prog := rfl
  revert X hfill
  k_fill
  intro X hfill
  clear hfill
  (try k_fold)
  k_steps
  all_goals exact hret _ _ _ _ (by assumption) (by assumption)
end

open PySem PySem.W PyProof.Rows PySem.Calls PySem.Spec
open Mine
local macro_rules | `(tactic| walk_at "RangeRest") => `(tactic| (k_here; k_dflt (((refine' law_rest ?hm ?h1 ?h2 ?hw ?hne ?o1 ?o2 ?A ?B); (case hm => with_unfolding_all rfl); (case h1 => k_mem); (case h2 => k_mem); (case hw => first | assumption | exact nums_of (by assumption) (by (try simp only [List.length_take]); omega)); (case hne => k_ne); (case o1 => k_ne); (case o2 => k_ne); (case A => (intro i9 k9 t9 u9 tt9 h9 tk9 hi9 hk9 hk9' hw9 hne9 ho9 ho9' F9 N9; (with_unfolding_all refine' turn_c _ _ _ _ _ _ _ _ ?isc ?ibd _ _ _ _ _ _ _ _ _ _ _ _ _ _ _ _ _ _ _ ?iB ?iX ?iT hi9 hk9 hk9' hw9 hne9 ho9 ho9' F9 N9); (case isc => with_unfolding_all rfl); (case ibd => with_unfolding_all rfl); (case iB => k_asm); (case iX => k_asm); (case iT => k_asm))); (case' B => (intro k9 t9 u9 h9 tk9 hk9 hk9' hw9 hne9 F9 N9; (with_unfolding_all refine' tail_c _ _ _ _ _ _ _ _ ?jsc ?jbd _ _ _ _ _ _ _ _ _ _ _ _ _ ?jB ?jX ?jT hk9 hk9' hw9 hne9 F9 N9 ?hret); (case jsc => with_unfolding_all rfl); (case jbd => with_unfolding_all rfl); (case jB => k_asm); (case jX => k_asm); (case jT => k_asm); (case' hret => (intro h' tk' m' news' F' N'; (try dsimp only); (try k_fold)))))))))
set_option maxHeartbeats 8000000 in
theorem PySem.Challenge.cw_ez0344_01_holds : PySem.Challenge.rw_ez0344_01.Holds :=
  Mine.hd (by
  w_on
  w_strict (k_go0; (all_goals try k_fold); k_steps))
