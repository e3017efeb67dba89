import PyProof.Rows.All
import Wide.All
import OpenK.AllK
import Wide.FinOn
import Flt.RightMore
import Flt.RightSqrt
import Flt.Calls
import Flt.Zero
import PySem.Challenge.RW_rl0058_01
set_option Elab.async false
section
open PySem PySem.W PyProof.Rows
set_option Elab.async false
set_option maxRecDepth 100000
set_option maxHeartbeats 8000000
namespace Mine
noncomputable def capt {H : Hook} (_ : (∀ x : Hook, x = H → False) → PySem.Challenge.rw_rl0058_01.row.Holds) : Hook := H
section
set_option hygiene false in
local macro_rules | `(tactic| o_head $H) => `(tactic| exact (t $H rfl).elim)
noncomputable def hk : Hook := by
  w_on
  refine' capt ?_
  rotate_left
  intro t
  km_head
end
noncomputable def vw : Program := view PySem.Challenge.rw_rl0058_01.row.prog [1, 2, 4, 5, 6, 7, 8, 9, 10, 12, 14, 15, 16, 17, 18]
noncomputable def adrs : List Addr := [2, 3, 6, 15, 17, 18, 20, 21, 22, 24, 25, 27, 28, 29, 31, 32, 34, 35, 36, 38, 39, 41, 42, 43, 45, 46, 48, 49, 50, 52, 53, 55, 56, 57, 59, 60, 62, 63, 64, 66, 67, 69, 70, 71, 73, 74, 76, 77, 78, 80, 81, 83, 84, 85, 87, 88, 90, 91, 92, 95, 96, 97, 99, 100, 102, 103, 104, 107, 108]
theorem adrs_ok : ∀ P, adrs = (Mine.hk.heap_1 P).map (·.1) := fun _ => by kernel_rfl
theorem look_names : namesResolve PySem.Challenge.rw_rl0058_01.row.prog = true := by kernel_rfl
theorem look_roads : noRoadLSs { strict := !(importedModules PySem.Challenge.rw_rl0058_01.row.prog.main.body).all cThrough.contains, foot := none, bare := (["vars", "dir", "locals"] : List Str).filter (readsOut PySem.Challenge.rw_rl0058_01.row.prog PySem.Challenge.rw_rl0058_01.row.prog.main.body) } PySem.Challenge.rw_rl0058_01.row.prog.main.body = true := by kernel_rfl
theorem look_meet : (namesMeet PySem.Challenge.rw_rl0058_01.row.prog PySem.Challenge.rw_rl0058_01.row.prog.main.body fun _ n => attrL n) = true := by kernel_rfl
theorem looks : looksOpen PySem.Challenge.rw_rl0058_01.row.prog = true := by
  unfold looksOpen
  refine look_both (look_both (look_both (look_both (look_both ?_ ?_) look_names) ?_) look_roads) look_meet <;> kernel_rfl
theorem part_said : OpenRow.partSaid PySem.Challenge.rw_rl0058_01.row = true := by
  unfold OpenRow.partSaid
  repeat' (with_reducible refine look_both ?_ ?_)
  · exact looks
  all_goals kernel_rfl
theorem row_said0 : OpenRow.wellSaid PySem.Challenge.rw_rl0058_01.row = true := by
  unfold OpenRow.wellSaid
  refine look_both (look_both part_said ?_) ?_ <;> kernel_rfl
theorem law_said : OpenLaw.wellSaid PySem.Challenge.rw_rl0058_01 = true := by
  unfold OpenLaw.wellSaid
  repeat' (with_reducible refine look_both ?_ ?_)
  · exact row_said0
  all_goals kernel_rfl
theorem opens_well : (chainsOk vw && opensWell PySem.Challenge.rw_rl0058_01.row.prog && (frees PySem.Challenge.rw_rl0058_01.row.toRowW && PySem.Challenge.rw_rl0058_01.row.within.isEmpty)) = true := by kernel_rfl
theorem law_left : LeftO PySem.Challenge.rw_rl0058_01.row.prog vw [] (fun s => xlAt vw [] s && recOk PySem.Challenge.rw_rl0058_01.row.toRowW.records s)
    (Hook.obs (kmHook Mine.hk.heap_1 adrs adrs_ok [51, 44])) (Hook.val (kmHook Mine.hk.heap_1 adrs adrs_ok [51, 44])) 1172 := by
  intro w
  kernel_rfl
theorem hd {d : DefRec} {kwd : List (Str × Expr)} (hdef : defOf vw PySem.Challenge.rw_rl0058_01.row.name = some (d, kwd)) (hp : PySem.Challenge.rw_rl0058_01.row.prog.theDef PySem.Challenge.rw_rl0058_01.row.name = some (d.params, d.body, d.scope))
    (hkw : kwWritten? d.params.kwonlyargs d.params.kw_defaults = some kwd)
    (walk : WalkO vw [] (XL vw []) (Hook.says (kmHook Mine.hk.heap_1 adrs adrs_ok [51, 44])) PySem.Challenge.rw_rl0058_01.row.toRowW d kwd fun f vs => call f vs) : PySem.Challenge.rw_rl0058_01.Holds := by
  w_on
  refine holds_law law_said fun said => ?_
  refine holds_open (XP := XL vw []) (YP := Hook.says (kmHook Mine.hk.heap_1 adrs adrs_ok [51, 44])) law_left (Hook.of _) (Hook.keeps _) (fun s e => xl_of s (Bool.and_eq_true_iff.mp e).1) XL.keeps hdef hp hkw (fun s e => recFacts_of (Bool.and_eq_true_iff.mp e).2) rfl said opens_well ⟨rfl, rfl, rfl, rfl, rfl, by decide +kernel⟩ ?hw walk
  case hw => w_witness2
end Mine
end
section
open PySem PySem.W PyProof.Rows PySem.Calls PySem.Spec
set_option Elab.async false
set_option maxRecDepth 100000
namespace Mine
noncomputable abbrev AA (dp : Nat) (fr : Option (List Env)) (gd : Option (List Code)) (un : Nat) : Around := { handled := none, depth := dp, frames := fr, guards := gd, units := un }

section
variable {w : World} {loose : List Str} {mean : ExcName → Option Value} {mg mb : Str → Option Value} {dp un : Nat} {fr : Option (List Env)} {gd : Option (List Code)} {s : Shared}

theorem enter {K : Frag} {f : Addr} {args : List Value} {name qual : Str} {params : Arguments} {body : List Stmt} {scope : Scope} {dV kV doc pm cdv ct oc : Value} {an od : Option Addr} {osl : Array (Option Value)} {binds : List (Str × Value)} {Q E : Value → Shared → Prop}
    (X : K.In s.heap) (T : Top topProg loose mean mg mb s.heap) (hd : dp < recursionLimit)
    (ho : K.lookup f = some ⟨oc, od, .func (fnOf name qual params body scope dV kV doc pm an cdv ct), osl⟩) (hcd : codeIn K cdv qual = true)
    (hbind : BindsTo s (fnOf name qual params body scope dV kV doc pm an cdv ct) ⟨args, []⟩ binds) (hloc : ∀ y ∈ binds, scope.names.lookup y.1 = some .local)
    (hcell : ∀ x ∈ scope.names, x.2 ≠ .cell) (hco : scope.isCoroutine = false) (hgen : scope.isGenerator = false) (hk : scope.kind = .function)
    (h : ∀ L h₁, Fr s.heap L h₁ (fun y => binds.reverse.lookup y) → News s.heap L h₁ [] →
      wpAny (model PySem.Challenge.rw_rl0058_01.row.prog w) ((AA dp fr gd un).deeper (envOf qual scope L f cdv)) (execs body (envOf qual scope L f cdv)) (fun fl s' => Q (match fl with | .ret v => v | _ => .none) s') (fun _ _ => False)
        { s with heap := h₁, toks := s.toks + binds.length }) :
    wpAny (model PySem.Challenge.rw_rl0058_01.row.prog w) (AA dp fr gd un) (call (.ref f) args) Q E s := by
  refine wpAny_call (codeAny_call_def (fd := fnOf name qual params body scope dV kV doc pm an cdv ct) (body := body) (binds := binds) hd (X _ _ ho) rfl T.nolimit (codeRec_of X hcd) rfl hbind hcell hloc (fun h₁ hns hk₁ => ?_) hco hgen hk)
  exact wpAny_mono (h s.heap.objs.size h₁ ⟨hns, hk₁, Nat.le_refl _⟩ News.nil) (fun _ _ x => x) fun _ _ x => x.elim
end

noncomputable def max3 (a b c : Int) : Int := if b > a then (if c > b then c else b) else (if c > a then c else a)
noncomputable def min3 (a b c : Int) : Int := if b < a then (if c < b then c else b) else (if c < a then c else a)
section
variable {prog : Program} {w : World} {A : Around} {E : Value → Shared → Prop} {s : Shared} {h₀ : Heap} {L : Addr} {m : Str → Option Value} {news : List (Addr × Obj)}
theorem max3_N {a b c : Int} {t u x : Tok} {Q : Value → Shared → Prop} (hh : A.handled = none) (F : Fr h₀ L s.heap m) (N : News h₀ L s.heap news)
    (h : ∀ h' tk t', Fr h₀ L h' m → News h₀ L h' news → Q (.int (max3 a b c) t') { s with heap := h', toks := tk }) :
    wpAny (model prog w) A (call (.builtin "max") [.int a t, .int b u, .int c x]) Q E s :=
  max_three_ints hh fun h' tk hk => by
    have := fun t' => h h' tk t' (F.grownK hk) (N.grown hk)
    unfold max3 at this
    by_cases c1 : b > a <;> simp only [c1, if_true, if_false] at this ⊢
    · by_cases c2 : c > b <;> simp only [c2, if_true, if_false] at this ⊢ <;> exact this _
    · by_cases c2 : c > a <;> simp only [c2, if_true, if_false] at this ⊢ <;> exact this _
theorem min3_N {a b c : Int} {t u x : Tok} {Q : Value → Shared → Prop} (hh : A.handled = none) (F : Fr h₀ L s.heap m) (N : News h₀ L s.heap news)
    (h : ∀ h' tk t', Fr h₀ L h' m → News h₀ L h' news → Q (.int (min3 a b c) t') { s with heap := h', toks := tk }) :
    wpAny (model prog w) A (call (.builtin "min") [.int a t, .int b u, .int c x]) Q E s :=
  min_three_ints hh fun h' tk hk => by
    have := fun t' => h h' tk t' (F.grownK hk) (N.grown hk)
    unfold min3 at this
    by_cases c1 : b < a <;> simp only [c1, if_true, if_false] at this ⊢
    · by_cases c2 : c < b <;> simp only [c2, if_true, if_false] at this ⊢ <;> exact this _
    · by_cases c2 : c < a <;> simp only [c2, if_true, if_false] at this ⊢ <;> exact this _
end
end Mine
namespace Mine
section
variable {w : World} {loose : List Str} {mean : ExcName → Option Value} {mg mb : Str → Option Value} {dp un : Nat} {fr : Option (List Env)} {gd : Option (List Code)} {s : Shared}

/-- the frozen part of a heap in which the addresses of `l` may still change -/
theorem hide_fr {h h₁ : Heap} {L : Addr} {m : Str → Option Value} (as : List Addr) (F : Fr h L h₁ m) : Fr (hideAll h as) L h₁ m :=
  ⟨F.ns, fun b o e => F.keep b o (of_hideAll _ e), by rw [hideAll_size]; exact F.above⟩

theorem enterC {K : Frag} {f : Addr} {args : List Value} {name qual : Str} {params : Arguments} {body : List Stmt} {scope : Scope} {dV kV doc pm cdv ct oc : Value} {an od : Option Addr} {osl : Array (Option Value)} {binds : List (Str × Value)} {Q E : Value → Shared → Prop}
    (X : K.In s.heap) (T : Top topProg loose mean mg mb s.heap) (hd : dp < recursionLimit)
    (ho : K.lookup f = some ⟨oc, od, .func (fnOf name qual params body scope dV kV doc pm an cdv ct), osl⟩) (hcd : codeIn K cdv qual = true)
    (hbind : BindsTo s (fnOf name qual params body scope dV kV doc pm an cdv ct) ⟨args, []⟩ binds)
    (hkind : (binds.all fun y => scope.names.lookup y.1 == some .local || scope.names.lookup y.1 == some .cell) = true)
    (hnd : ((cellsFrom 0 scope.names []).map (·.1)).Nodup) (hco : scope.isCoroutine = false) (hgen : scope.isGenerator = false) (hk : scope.kind = .function)
    (h : ∀ L h₁ tk cells, Fr s.heap L h₁ (bindL (envOfC qual scope L f cdv).kindOf binds fun _ => none) → News s.heap L h₁ cells →
      CellsAre (bindC (envOfC qual scope L f cdv).kindOf binds fun _ => none) (cellsFrom (L + 1) scope.names []) cells →
      wpAny (model PySem.Challenge.rw_rl0058_01.row.prog w) ((AA dp fr gd un).deeper (envOfC qual scope L f cdv)) (execs body (envOfC qual scope L f cdv)) (fun fl s' => Q (match fl with | .ret v => v | _ => .none) s') (fun _ _ => False)
        { s with heap := h₁, toks := tk }) :
    wpAny (model PySem.Challenge.rw_rl0058_01.row.prog w) (AA dp fr gd un) (call (.ref f) args) Q E s := by
  refine wpAny_call (codeAny_call_function (fd := fnOf name qual params body scope dV kV doc pm an cdv ct) (body := body) hd (X _ _ ho) rfl hco hgen rfl (codeRec_of X hcd) (hbind _ _ _ _ ?_))
  refine wpAny_newFunctionEnv_cells hk (kindsX hkind _) fun env' he s' x => ?_
  subst he
  refine ⟨T.nolimit.keeps x.toInCall.keep, codeAny_func ?_⟩
  obtain ⟨h₁, tk, rfl, _⟩ := x.done
  have hk₁ := x.toInCall.keep
  obtain ⟨cells, NC, Y⟩ := Cl.news (h₀ := s.heap) (Nat.le_refl _) fun n c hm => ⟨x.cell n c (lookup_of_mem_nodup (cellsFrom_names scope.names 0 (s.heap.objs.size + 1) [] [] rfl ▸ hnd) hm), x.above n c hm⟩
  exact wpAny_mono (h s.heap.objs.size h₁ tk cells ⟨x.toInCall.ns, hk₁, Nat.le_refl _⟩ NC Y) (fun _ _ x => x) fun _ _ x => x.elim
end
end Mine
end
section
open PySem PySem.W PyProof.Rows PySem.Calls PySem.Spec
set_option Elab.async false
set_option maxRecDepth 100000
namespace Mine
section
variable {prog : Program} {w : World} {A : Around} {E : Value → Shared → Prop} {s : Shared} {h₀ : Heap} {L D b : Addr} {m : Str → Option Value} {news : List (Addr × Obj)} {g : Obj → List (Addr × Obj)}
theorem extend_my {its its2 : List Value} {n n2 : Nat} {Q : Value → Shared → Prop} (F : Fr h₀ L s.heap m) (N : News h₀ L s.heap news) (U : UpdF D (W.listOf its.toArray n) news g) (hb : (b, W.listOf its2.toArray n2) ∈ news)
    (hz : its.length + its2.length ≤ sizeLine)
    (h : ∀ h' n', Fr h₀ L h' m → News h₀ L h' (g (W.listOf (its ++ its2).toArray n')) → Q .none { s with heap := h' }) : wpAny (model prog w) A (call (.builtin "list.extend") [.ref D, .ref b]) Q E s := by
  obtain ⟨pre, post, hl, hg, a, c⟩ := U.split
  have z := N (D, W.listOf its.toArray n) (hl ▸ List.mem_append.mpr (.inr (.head _)))
  have N' : News h₀ L s.heap (pre ++ (D, W.listOf its.toArray n) :: post) := hl ▸ N
  refine call_meets PySem.F.slot_list_extend ⟨_, z.1, rfl⟩ PySem.F.entry_list_extend (PySem.F.args_list_extend_2 _ _) (PySem.AutoSeq1.list_extend_list_list_0 D its.toArray n b its2.toArray n2 ?_ ?_ ?_) ⟨z.1, (N _ hb).1, ?_⟩
  · simp only [Builtin.List.listTooLong, List.size_toArray, Bool.and_eq_true, decide_eq_true_eq, not_and]; intro _; lia
  · simp only [List.size_toArray]; lia
  · simp only [List.size_toArray]; lia
  · refine h _ (if (its ++ its2).toArray.size == its.toArray.size then n else n + 1) (F.change (Heap.SameBut.update ..) z.2.1 z.2.2) (hg _ ▸ N'.setIn a c (Heap.SameBut.update ..) ?_)
    have := Heap.get?_update_self (Obj.mapSeq fun x => x ++ its2.toArray) z.1 (by simp [W.listOf, Obj.mapSeq, Obj.isFreed])
    rw [this]
    simp [W.listOf, Obj.mapSeq]
end
end Mine
end
section
open PySem PySem.W PyProof.Rows PySem.Calls PySem.Spec
set_option Elab.async false
set_option maxRecDepth 100000
namespace Mine
section
variable {w : World} {loose : List Str} {mean : ExcName → Option Value} {mg mb : Str → Option Value} {dp un : Nat} {fr : Option (List Env)} {gd : Option (List Code)} {s : Shared}
/-- what the caller knows of what may change, as a ledger of the callee's -/
theorem news_hide {h h₁ : Heap} {L : Addr} {news : List (Addr × Obj)} (hn : ∀ p ∈ news, h.get? p.1 = some p.2) (hk : ∀ b o, h.get? b = some o → h₁.get? b = some o) (hL : h.objs.size ≤ L) : News (hideAll h (news.map (·.1))) L h₁ news :=
  fun p hp => ⟨hk _ _ (hn p hp), Nat.ne_of_lt (Nat.lt_of_lt_of_le (Heap.lt_size (hn p hp)) hL), hideAll_none _ (List.mem_map_of_mem hp)⟩

theorem enterN {K : Frag} {f : Addr} {args : List Value} {name qual : Str} {params : Arguments} {body : List Stmt} {scope : Scope} {dV kV doc pm cdv ct oc : Value} {an od : Option Addr} {osl : Array (Option Value)} {binds : List (Str × Value)} {Q E : Value → Shared → Prop}
    {g₀ : Heap} (news : List (Addr × Obj)) (X : K.In g₀) (T : Top topProg loose mean mg mb g₀) (S : g₀.StaysIn s.heap) (hn : ∀ p ∈ news, s.heap.get? p.1 = some p.2) (hd : dp < recursionLimit)
    (ho : K.lookup f = some ⟨oc, od, .func (fnOf name qual params body scope dV kV doc pm an cdv ct), osl⟩) (hcd : codeIn K cdv qual = true)
    (hbind : BindsTo s (fnOf name qual params body scope dV kV doc pm an cdv ct) ⟨args, []⟩ binds) (hloc : ∀ y ∈ binds, scope.names.lookup y.1 = some .local)
    (hcell : ∀ x ∈ scope.names, x.2 ≠ .cell) (hco : scope.isCoroutine = false) (hgen : scope.isGenerator = false) (hk : scope.kind = .function)
    (h : ∀ L h₁, Fr (hideAll s.heap (news.map (·.1))) L h₁ (fun y => binds.reverse.lookup y) → News (hideAll s.heap (news.map (·.1))) L h₁ news → (∀ p ∈ news, p.1 < L) →
      wpAny (model PySem.Challenge.rw_rl0058_01.row.prog w) ((AA dp fr gd un).deeper (envOf qual scope L f cdv)) (execs body (envOf qual scope L f cdv)) (fun fl s' => Q (match fl with | .ret v => v | _ => .none) s') (fun _ _ => False)
        { s with heap := h₁, toks := s.toks + binds.length }) :
    wpAny (model PySem.Challenge.rw_rl0058_01.row.prog w) (AA dp fr gd un) (call (.ref f) args) Q E s := by
  refine wpAny_call (codeAny_call_def (fd := fnOf name qual params body scope dV kV doc pm an cdv ct) (body := body) (binds := binds) hd (X.keeps S _ _ ho) rfl (T.nolimit.keeps S) (codeRec_of (X.keeps S) hcd) rfl hbind hcell hloc (fun h₁ hns hk₁ => ?_) hco hgen hk)
  exact wpAny_mono (h s.heap.objs.size h₁ (hide_fr _ ⟨hns, hk₁, Nat.le_refl _⟩) (news_hide hn hk₁ (Nat.le_refl _)) (fun p hp => Heap.lt_size (hn p hp))) (fun _ _ x => x) fun _ _ x => x.elim

theorem enterF {f c' : Addr} {args : List Value} {name qual : Str} {params : Arguments} {body : List Stmt} {scope : Scope} {cl : List (Str × Addr)} {doc pm ctv : Value} {binds : List (Str × Value)} {Q E : Value → Shared → Prop}
    (news : List (Addr × Obj)) (hlim : s.heap.NoLimit) (hn : ∀ p ∈ news, s.heap.get? p.1 = some p.2) (hd : dp < recursionLimit)
    (ho : s.heap.get? f = some (fnMade name qual params body scope cl doc pm c' ctv)) (hcd : s.heap.CodeRec (.ref c') qual)
    (hbind : BindsTo s (fnX name qual params body scope cl .none .none doc pm none (.ref c') ctv) ⟨args, []⟩ binds) (hloc : ∀ y ∈ binds, scope.names.lookup y.1 = some .local)
    (hcell : ∀ x ∈ scope.names, x.2 ≠ .cell) (hco : scope.isCoroutine = false) (hgen : scope.isGenerator = false) (hk : scope.kind = .function)
    (h : ∀ L h₁, Fr (hideAll s.heap (news.map (·.1))) L h₁ (fun y => binds.reverse.lookup y) → News (hideAll s.heap (news.map (·.1))) L h₁ news → (∀ p ∈ news, p.1 < L) →
      wpAny (model PySem.Challenge.rw_rl0058_01.row.prog w) ((AA dp fr gd un).deeper (envX qual scope L f (.ref c') cl)) (execs body (envX qual scope L f (.ref c') cl)) (fun fl s' => Q (match fl with | .ret v => v | _ => .none) s') (fun _ _ => False)
        { s with heap := h₁, toks := s.toks + binds.length }) :
    wpAny (model PySem.Challenge.rw_rl0058_01.row.prog w) (AA dp fr gd un) (call (.ref f) args) Q E s := by
  refine wpAny_call (codeAny_call_def (fd := fnX name qual params body scope cl .none .none doc pm none (.ref c') ctv) (body := body) (binds := binds) hd ho rfl hlim hcd rfl hbind hcell hloc (fun h₁ hns hk₁ => ?_) hco hgen hk)
  exact wpAny_mono (h s.heap.objs.size h₁ (hide_fr _ ⟨hns, hk₁, Nat.le_refl _⟩) (news_hide hn hk₁ (Nat.le_refl _)) (fun p hp => Heap.lt_size (hn p hp))) (fun _ _ x => x) fun _ _ x => x.elim

theorem enterCN {K : Frag} {f : Addr} {args : List Value} {name qual : Str} {params : Arguments} {body : List Stmt} {scope : Scope} {dV kV doc pm cdv ct oc : Value} {an od : Option Addr} {osl : Array (Option Value)} {binds : List (Str × Value)} {Q E : Value → Shared → Prop}
    {g₀ : Heap} (news : List (Addr × Obj)) (X : K.In g₀) (T : Top topProg loose mean mg mb g₀) (S : g₀.StaysIn s.heap) (hn : ∀ p ∈ news, s.heap.get? p.1 = some p.2) (hd : dp < recursionLimit)
    (ho : K.lookup f = some ⟨oc, od, .func (fnOf name qual params body scope dV kV doc pm an cdv ct), osl⟩) (hcd : codeIn K cdv qual = true)
    (hbind : BindsTo s (fnOf name qual params body scope dV kV doc pm an cdv ct) ⟨args, []⟩ binds)
    (hkind : (binds.all fun y => scope.names.lookup y.1 == some .local || scope.names.lookup y.1 == some .cell) = true)
    (hnd : ((cellsFrom 0 scope.names []).map (·.1)).Nodup) (hco : scope.isCoroutine = false) (hgen : scope.isGenerator = false) (hk : scope.kind = .function)
    (h : ∀ L h₁ tk cells, Fr (hideAll s.heap (news.map (·.1))) L h₁ (bindL (envOfC qual scope L f cdv).kindOf binds fun _ => none) → News (hideAll s.heap (news.map (·.1))) L h₁ (cells ++ news) →
      CellsAre (bindC (envOfC qual scope L f cdv).kindOf binds fun _ => none) (cellsFrom (L + 1) scope.names []) cells → (∀ p ∈ news, p.1 < L) →
      wpAny (model PySem.Challenge.rw_rl0058_01.row.prog w) ((AA dp fr gd un).deeper (envOfC qual scope L f cdv)) (execs body (envOfC qual scope L f cdv)) (fun fl s' => Q (match fl with | .ret v => v | _ => .none) s') (fun _ _ => False)
        { s with heap := h₁, toks := tk }) :
    wpAny (model PySem.Challenge.rw_rl0058_01.row.prog w) (AA dp fr gd un) (call (.ref f) args) Q E s := by
  refine wpAny_call (codeAny_call_function (fd := fnOf name qual params body scope dV kV doc pm an cdv ct) (body := body) hd (X.keeps S _ _ ho) rfl hco hgen rfl (codeRec_of (X.keeps S) hcd) (hbind _ _ _ _ ?_))
  refine wpAny_newFunctionEnv_cells hk (kindsX hkind _) fun env' he s' x => ?_
  subst he
  refine ⟨(T.nolimit.keeps S).keeps x.toInCall.keep, codeAny_func ?_⟩
  obtain ⟨h₁, tk, rfl, _⟩ := x.done
  have hk₁ := x.toInCall.keep
  obtain ⟨cells, NC, Y⟩ := Cl.news (h₀ := s.heap) (Nat.le_refl _) fun n c hm => ⟨x.cell n c (lookup_of_mem_nodup (cellsFrom_names scope.names 0 (s.heap.objs.size + 1) [] [] rfl ▸ hnd) hm), x.above n c hm⟩
  refine wpAny_mono (h s.heap.objs.size h₁ tk cells (hide_fr _ ⟨x.toInCall.ns, hk₁, Nat.le_refl _⟩) (fun p hp => ?_) Y (fun p hp => Heap.lt_size (hn p hp))) (fun _ _ x => x) fun _ _ x => x.elim
  rcases List.mem_append.mp hp with hp | hp
  · refine ⟨(NC p hp).1, (NC p hp).2.1, ?_⟩
    cases q : (hideAll s.heap (news.map (·.1))).get? p.1 with
    | none => rfl
    | some o => have := of_hideAll _ q; rw [(NC p hp).2.2] at this; cases this
  · exact news_hide hn hk₁ (Nat.le_refl _) p hp

/-- a free name whose cell stands in the frozen part -/
theorem nameX_FB {M : Model} {A : Around} {E : Value → Shared → Prop} {h₀ : Heap} {L a c : Addr} {m : Str → Option Value} {cn x : Str} {cs : Scope} {ccd v : Value} {cl : List (Str × Addr)} {pos : Pos} {o : Obj} {Q : Value → Shared → Prop}
    (F : Fr h₀ L s.heap m) (hc : cl.lookup x = some c) (ho : h₀.get? c = some o) (hd : o.data = .cell (some v)) (h : Q v s)
    (hk : cs.kind = .function := by rfl) (hx : (envX cn cs L a ccd cl).kindOf x = some .free := by rfl) (hb : (x == ("__debug__" : Str)) = false := by decide) (hn : (x == ("__classdict__" : Str)) = false := by decide) :
    wpAny M A (eval (.Name x pos) (envX cn cs L a ccd cl)) Q E s := wpAny_Name (wpAny_loadName_free hk hx hc ⟨_, F.keep _ _ ho, hd⟩ h hn) hb
end
end Mine
end
section
/-! digits -/
namespace Mine
/-- k digits of x, base 2^n, the lowest first -/
noncomputable def dg (n : Nat) : Nat → Nat → List Nat
  | 0, _ => []
  | k + 1, x => x % 2 ^ n :: dg n k (x / 2 ^ n)
theorem dg_length (n : Nat) : ∀ k x, (dg n k x).length = k
  | 0, _ => rfl
  | k + 1, x => by simp [dg, dg_length n k]
theorem dg_add (n : Nat) : ∀ k1 k2 x, dg n (k1 + k2) x = dg n k1 (x % 2 ^ (k1 * n)) ++ dg n k2 (x / 2 ^ (k1 * n))
  | 0, k2, x => by simp [dg]
  | k1 + 1, k2, x => by
    rw [Nat.add_right_comm, dg, dg, dg_add n k1 k2 (x / 2 ^ n), List.cons_append]
    have e1 : x % 2 ^ ((k1 + 1) * n) % 2 ^ n = x % 2 ^ n := by
      rw [Nat.succ_mul, Nat.pow_add, Nat.mul_comm, Nat.mod_mul_right_mod]
    have e2 : x % 2 ^ ((k1 + 1) * n) / 2 ^ n = x / 2 ^ n % 2 ^ (k1 * n) := by
      rw [Nat.succ_mul, Nat.pow_add, Nat.mul_comm, Nat.mod_mul_right_div_self]
    have e3 : x / 2 ^ n / 2 ^ (k1 * n) = x / 2 ^ ((k1 + 1) * n) := by
      rw [Nat.div_div_eq_div_mul, ← Nat.pow_add, Nat.succ_mul, Nat.add_comm]
    rw [e1, e2, e3]
theorem dg_one {n x : Nat} (h : x < 2 ^ n) : dg n 1 x = [x] := by simp [dg, Nat.mod_eq_of_lt h]
theorem dg_lt (n : Nat) : ∀ k x, ∀ d ∈ dg n k x, d < 2 ^ n
  | 0, _, d, h => by simp [dg] at h
  | k + 1, x, d, h => by
    simp only [dg, List.mem_cons] at h
    rcases h with h | h
    · rw [h]; exact Nat.mod_lt _ (Nat.two_pow_pos _)
    · exact dg_lt n k _ d h
noncomputable def dgI (n k x : Nat) : List Int := (dg n k x).map Int.ofNat
theorem dgI_length (n k x : Nat) : (dgI n k x).length = k := by simp [dgI, dg_length]
theorem dgI_add (n k1 k2 x : Nat) : dgI n (k1 + k2) x = dgI n k1 (x % 2 ^ (k1 * n)) ++ dgI n k2 (x / 2 ^ (k1 * n)) := by simp [dgI, dg_add]
theorem dgI_one {n x : Nat} (h : x < 2 ^ n) : dgI n 1 x = [(x : Int)] := by simp [dgI, dg_one h]
/-- the list behind the two halves -/
theorem put_two {ms A B : List Int} {lo mid hi : Nat} (h1 : lo ≤ mid) (h2 : mid ≤ hi) (h3 : hi ≤ ms.length) (hA : A.length = mid - lo) :
    (ms.take lo ++ A ++ ms.drop mid).take mid ++ B ++ (ms.take lo ++ A ++ ms.drop mid).drop hi = ms.take lo ++ (A ++ B) ++ ms.drop hi := by
  have e : (ms.take lo ++ A).length = mid := by rw [List.length_append, List.length_take, hA]; lia
  have t : (ms.take lo ++ A ++ ms.drop mid).take mid = ms.take lo ++ A := by rw [List.take_append_of_le_length (by lia), List.take_of_length_le (by lia)]
  have d : (ms.take lo ++ A ++ ms.drop mid).drop hi = ms.drop hi := by
    rw [List.drop_append, e, List.drop_drop, List.drop_eq_nil_of_le (by lia), List.nil_append]
    congr 1; lia
  rw [t, d]; simp
theorem put_one {ms : List Int} {lo : Nat} {x : Int} (h : lo < ms.length) : ms.set lo x = ms.take lo ++ [x] ++ ms.drop (lo + 1) := by
  rw [List.set_eq_take_append_cons_drop]; simp [h]
end Mine
end
section
open PySem PySem.W PyProof.Rows PySem.Calls PySem.Spec
set_option Elab.async false
set_option maxRecDepth 100000
namespace Mine
/-- what the inner def of _int2digits does with k places -/
noncomputable def ISpec (w : World) (name qual : Str) (params : Arguments) (body : List Stmt) (scope : Scope) (cl : List (Str × Addr)) (n : Nat) (k : Nat) : Prop :=
  ∀ (loose : List Str) (mean : ExcName → Option Value) (mg mb : Str → Option Value) (dp un : Nat) (fr : Option (List Env)) (gd : Option (List Code)) (s : Shared) (Q E : Value → Shared → Prop) (g₀ : Heap)
    (f c' ca ci cn lst : Addr) (doc pm ctv : Value) (oa oi on : Obj) (vs : List Value) (ms : List Int) (e : Nat) (tn tx tl th : Tok) (x lo hi : Int),
    (Mine.hk.heap_1 w.params).In g₀ → Top topProg loose mean mg mb g₀ → g₀.StaysIn s.heap → g₀.get? lst = none → dp + k < 950 →
    s.heap.get? f = some (fnMade name qual params body scope cl doc pm c' ctv) → s.heap.CodeRec (.ref c') qual →
    cl.lookup (Str.ofString "a_digits") = some ca → cl.lookup (Str.ofString "inner") = some ci → cl.lookup (Str.ofString "n") = some cn →
    s.heap.get? ca = some oa → oa.data = .cell (some (.ref lst)) → s.heap.get? ci = some oi → oi.data = .cell (some (.ref f)) → s.heap.get? cn = some on → on.data = .cell (some (.int n tn)) →
    s.heap.get? lst = some (W.listOf vs.toArray e) → IntsAre vs ms → ms.length ≤ 1000 → 0 < n → n ≤ 64 →
    0 ≤ lo → lo + k = hi → hi ≤ ms.length → 0 < k → 0 ≤ x → x < 2 ^ (k * n) → x < 2 ^ 64 →
    (∀ h' tk vs' e', (∀ b o, b ≠ lst → s.heap.get? b = some o → h'.get? b = some o) → h'.get? lst = some (W.listOf (List.toArray vs') e') → IntsAre vs' (ms.take lo.toNat ++ dgI n k x.toNat ++ ms.drop hi.toNat) → Q .none { s with heap := h', toks := tk }) →
    wpAny (model PySem.Challenge.rw_rl0058_01.row.prog w) (AA dp fr gd un) (call (.ref f) [.int x tx, .int lo tl, .int hi th]) Q E s
/-- how many places _int2digits takes -/
noncomputable def cnt (a n : Nat) : Nat := (Builtin.Int.intBits (a : Int) + n - 1) / n
theorem bits_lt (a : Nat) : a < 2 ^ Builtin.Int.intBits (a : Int) := by
  unfold Builtin.Int.intBits
  by_cases h : a = 0
  · subst h; decide
  · have : ((a : Int) == 0) = false := by simpa using h
    rw [this]
    simp only [Bool.false_eq_true, if_false, Int.natAbs_natCast]
    exact Nat.lt_log2_self
theorem bits_le {a k : Nat} (h : a < 2 ^ k) : Builtin.Int.intBits (a : Int) ≤ k := by
  unfold Builtin.Int.intBits
  by_cases h0 : a = 0
  · subst h0; simp
  · have : ((a : Int) == 0) = false := by simpa using h0
    rw [this]
    simp only [Bool.false_eq_true, if_false, Int.natAbs_natCast]
    exact Nat.succ_le_of_lt ((Nat.log2_lt h0).mpr h)
theorem bits_pos {a : Nat} (h : a ≠ 0) : 0 < Builtin.Int.intBits (a : Int) := by
  unfold Builtin.Int.intBits
  have : ((a : Int) == 0) = false := by simpa using h
  rw [this]; simp
theorem cnt_eq (a n : Nat) (hn : 0 < n) : ((Builtin.Int.intBits (a : Int) : Nat) + (n : Int) - 1).fdiv n = (cnt a n : Nat) := by
  rw [Int.fdiv_eq_ediv_of_nonneg _ (by lia)]
  unfold cnt
  rw [Int.natCast_ediv]
  congr 1
  lia
theorem cnt_le {a n : Nat} (ha : a < 2 ^ 64) (hn : 0 < n) : cnt a n ≤ 64 := by
  have := bits_le ha
  unfold cnt
  generalize Builtin.Int.intBits (a : Int) = b at *
  refine Nat.le_of_lt_succ (Nat.div_lt_of_lt_mul ?_)
  have h2 : b ≤ n * 64 := Nat.le_trans this (Nat.le_mul_of_pos_left _ hn)
  omega
theorem cnt_fits {a n : Nat} (hn : 0 < n) : a < 2 ^ (cnt a n * n) := by
  refine Nat.lt_of_lt_of_le (bits_lt a) (Nat.pow_le_pow_right (by decide) ?_)
  unfold cnt
  generalize Builtin.Int.intBits (a : Int) = b
  have := Nat.div_add_mod (b + n - 1) n
  have h2 := Nat.mod_lt (b + n - 1) hn
  rw [Nat.mul_comm] at this
  omega
theorem cnt_pos {a n : Nat} (ha : a ≠ 0) (hn : 0 < n) : 0 < cnt a n := by
  have := bits_pos ha
  unfold cnt
  exact Nat.div_pos (by omega) hn
theorem cnt_zero {n : Nat} (hn : 0 < n) : cnt 0 n = 0 := by
  unfold cnt
  have : Builtin.Int.intBits ((0 : Nat) : Int) = 0 := by decide
  rw [this]
  exact Nat.div_eq_of_lt (by omega)
section
variable {prog : Program} {w : World} {A : Around} {E : Value → Shared → Prop} {s : Shared} {h₀ : Heap} {L : Addr} {m : Str → Option Value} {news : List (Addr × Obj)} {l : Addr} {v : Value} {e : Nat} {u : Tok} {Q : Value → Shared → Prop}
theorem mul_my {a n : Nat} (ha : a < 2 ^ 64) (hn : 0 < n) (F : Fr h₀ L s.heap m) (N : News h₀ L s.heap news) (hm : (l, W.listOf #[v] e) ∈ news)
    (h : ∀ D h', Fr h₀ L h' m → News h₀ L h' ((D, W.listOf (List.replicate (cnt a n) v).toArray 0) :: news) → (∀ p ∈ news, p.1 < D) → Q (.ref D) { s with heap := h' }) :
    wpAny (model prog w) A (binaryOp .Mult (.ref l) (.int (((Builtin.Int.intBits (a : Int) : Nat) + (n : Int) - 1).fdiv n) u)) Q E s := by
  rw [cnt_eq a n hn]
  have h1 := cnt_le ha hn
  refine KMa.mul (vs := [v]) F N (N.isList hm) (by lia) (by lia) (by simp; lia) ?_ h
  generalize cnt a n = k
  induction k with
  | zero => rfl
  | succ k ih => simp only [Int.toNat_natCast] at ih ⊢; rw [List.replicate_succ, List.flatten_cons, ih, List.replicate_succ]; rfl
end

section
variable {prog : Program} {w : World} {A : Around} {E : Value → Shared → Prop} {s : Shared} {h₀ : Heap} {L l : Addr} {m : Str → Option Value} {news : List (Addr × Obj)} {g : Obj → List (Addr × Obj)}
theorem len_my {us : List Value} {c : Nat} {Q : Value → Shared → Prop} (N : News h₀ L s.heap news) (hm : (l, W.listOf us.toArray c) ∈ news) (hfit : us.length < 2 ^ 60)
    (h : Q (.int (us.length : Int) (s.toks + 1)) { s with toks := s.toks + 1 + 1 }) : wpAny (model prog w) A (call (.builtin "len") [.ref l]) Q E s := by
  have hl : s.heap.IsList l us.toArray := ⟨_, (N _ hm).1, rfl, c, rfl⟩
  have e2 : us.toArray.size = us.length := List.size_toArray ..
  exact len_list hl (by rw [e2]; lia) (by rw [e2]; exact h)
end
section
variable {w : World} {name qual : Str} {params : Arguments} {body : List Stmt} {scope : Scope} {cl : List (Str × Addr)} {n : Nat} {loose : List Str} {mean : ExcName → Option Value} {mg mb : Str → Option Value} {dp un : Nat} {fr : Option (List Env)} {gd : Option (List Code)} {s : Shared} {Q E : Value → Shared → Prop}
  {h₀ : Heap} {L : Addr} {m : Str → Option Value} {news : List (Addr × Obj)} {g : Obj → List (Addr × Obj)} {f c' ca ci cn lst : Addr} {doc pm ctv : Value} {oa oi on : Obj} {vs : List Value} {ms : List Int} {e : Nat} {tn tx tl th : Tok} {x lo hi : Int}
theorem inner_use {k : Nat} (sp : ISpec w name qual params body scope cl n k) (X : (Mine.hk.heap_1 w.params).In h₀) (T : Top topProg loose mean mg mb h₀) (F : Fr h₀ L s.heap m) (N : News h₀ L s.heap news) (hd : dp + k < 950)
    (hf : s.heap.get? f = some (fnMade name qual params body scope cl doc pm c' ctv)) (hc : s.heap.CodeRec (.ref c') qual)
    (l1 : cl.lookup (Str.ofString "a_digits") = some ca) (l2 : cl.lookup (Str.ofString "inner") = some ci) (l3 : cl.lookup (Str.ofString "n") = some cn)
    (a1 : s.heap.get? ca = some oa) (d1 : oa.data = .cell (some (.ref lst))) (a2 : s.heap.get? ci = some oi) (d2 : oi.data = .cell (some (.ref f))) (a3 : s.heap.get? cn = some on) (d3 : on.data = .cell (some (.int n tn)))
    (U : UpdF lst (W.listOf vs.toArray e) news g) (hI : IntsAre vs ms) (hl : ms.length ≤ 1000) (n0 : 0 < n) (n1 : n ≤ 64)
    (p1 : 0 ≤ lo) (p2 : lo + k = hi) (p3 : hi ≤ ms.length) (p4 : 0 < k) (p5 : 0 ≤ x) (p6 : x < 2 ^ (k * n)) (p7 : x < 2 ^ 64)
    (h : ∀ h' tk vs' e', Fr h₀ L h' m → News h₀ L h' (g (W.listOf (List.toArray vs') e')) → IntsAre vs' (ms.take lo.toNat ++ dgI n k x.toNat ++ ms.drop hi.toNat) → Q .none { s with heap := h', toks := tk }) :
    wpAny (model PySem.Challenge.rw_rl0058_01.row.prog w) (AA dp fr gd un) (call (.ref f) [.int x tx, .int lo tl, .int hi th]) Q E s := by
  obtain ⟨pre, post, hl', hg, a, b⟩ := U.split
  have N' : News h₀ L s.heap (pre ++ (lst, W.listOf vs.toArray e) :: post) := hl' ▸ N
  have z := N' (lst, W.listOf vs.toArray e) (List.mem_append_right _ (.head _))
  refine sp loose mean mg mb dp un fr gd s Q E h₀ f c' ca ci cn lst doc pm ctv oa oi on vs ms e tn tx tl th x lo hi X T F.keep z.2.2 hd hf hc l1 l2 l3 a1 d1 a2 d2 a3 d3 z.1 hI hl n0 n1 p1 p2 p3 p4 p5 p6 p7 fun h' tk vs' e' hk ho hI' => ?_
  refine h h' tk vs' e' ⟨F.ns.at' fun o e => hk _ o z.2.1.symm e, fun b o e => hk b o (fun q => by rw [q, z.2.2] at e; cases e) (F.keep b o e), F.above⟩ (hg _ ▸ fun p hp => ?_) hI'
  rcases List.mem_append.mp hp with q | q
  · have P := N' p (List.mem_append_left _ q); exact ⟨hk _ _ (a p q) P.1, P.2⟩
  · rcases List.mem_cons.mp q with rfl | q
    · exact ⟨ho, z.2⟩
    · have P := N' p (List.mem_append_right _ (.tail _ q)); exact ⟨hk _ _ (b p q) P.1, P.2⟩
end

theorem ints_rep (k : Nat) (x : Int) (t : Tok) : IntsAre (List.replicate k (Value.int x t)) (List.replicate k x) := by
  induction k with
  | zero => exact .nil
  | succ k ih => exact .cons x t ih

theorem isp_of {w : World} {name qual : Str} {params : Arguments} {body : List Stmt} {scope : Scope} {cl : List (Str × Addr)} {n : Nat} (h : ∀ k, (∀ k', k' < k → ISpec w name qual params body scope cl n k') → ISpec w name qual params body scope cl n k) (k : Nat) : ISpec w name qual params body scope cl n k :=
  Nat.strongRecOn k h
theorem stays_hide1 {g₀ h : Heap} {a : Addr} (S : g₀.StaysIn h) (hn : g₀.get? a = none) : g₀.StaysIn (hideAll h [a]) := fun b o e => hideAll_get _ (S b o e) (by intro q; rw [List.mem_singleton] at q; rw [q, hn] at e; cases e)
theorem hide1_get {h : Heap} {a b : Addr} {o : Obj} (e : h.get? b = some o) (hb : b ≠ a) : (hideAll h [a]).get? b = some o := hideAll_get _ e (by simpa using hb)

theorem fn_ne_list {name qual : Str} {params : Arguments} {body : List Stmt} {scope : Scope} {cl : List (Str × Addr)} {doc pm ctv : Value} {c' : Addr} {its : Array Value} {e : Nat} (h : some (W.listOf its e) = some (fnMade name qual params body scope cl doc pm c' ctv)) : False := by
  have := congrArg Obj.data (Option.some.inj h)
  cases this
end Mine
end
section
open PySem PySem.W PyProof.Rows PySem.Calls PySem.Spec
set_option Elab.async false
set_option maxRecDepth 100000
namespace Mine
theorem nat_and_high (x k : Nat) : x &&& (x / 2 ^ k * 2 ^ k) = x / 2 ^ k * 2 ^ k := by
  apply Nat.eq_of_testBit_eq
  intro i
  rw [Nat.testBit_and, Nat.testBit_mul_two_pow, Nat.testBit_div_two_pow]
  by_cases h : k ≤ i
  · simp [h]
  · simp [h]
theorem xor_low (x k : Nat) : Builtin.bitXor (x : Int) ((x / 2 ^ k * 2 ^ k : Nat) : Int) = ((x % 2 ^ k : Nat) : Int) := by
  rw [bitXor_and]
  have h : Builtin.bitAnd (x : Int) ((x / 2 ^ k * 2 ^ k : Nat) : Int) = ((x / 2 ^ k * 2 ^ k : Nat) : Int) := by
    unfold Builtin.bitAnd
    have h1 : decide ((0 : Int) ≤ (x : Int)) = true := decide_eq_true (Int.natCast_nonneg _)
    have h2 : decide ((0 : Int) ≤ ((x / 2 ^ k * 2 ^ k : Nat) : Int)) = true := decide_eq_true (Int.natCast_nonneg _)
    rw [h1, h2]
    simp only [Int.toNat_natCast]
    rw [nat_and_high]
  rw [h]
  have e := Nat.div_add_mod x (2 ^ k)
  rw [Nat.mul_comm] at e
  omega
theorem mid_facts {lo hi : Int} {k : Nat} (p1 : 0 ≤ lo) (p2 : lo + k = hi) (hne : lo + 1 ≠ hi) (p4 : 0 < k) :
    ∃ j : Nat, (lo + hi).fdiv (2 ^ Int.toNat 1) = lo + j ∧ 0 < j ∧ j < k := by
  have e : (2 : Int) ^ Int.toNat 1 = 2 := rfl
  rw [e, Int.fdiv_eq_ediv_of_nonneg _ (by decide)]
  exact ⟨((lo + hi) / 2 - lo).toNat, by lia, by lia, by lia⟩
/-- the two halves of x -/
theorem halves {x lo : Int} {j k n : Nat} (p5 : 0 ≤ x) (hj : j < k) (p6 : x < 2 ^ (k * n)) (p7 : x < 2 ^ 64) :
    ((lo + j - lo) * (n : Int)).toNat = j * n ∧ 0 ≤ (lo + j - lo) * (n : Int) ∧
    x.fdiv (2 ^ (j * n)) = ((x.toNat / 2 ^ (j * n) : Nat) : Int) ∧ x.fdiv (2 ^ (j * n)) * 2 ^ (j * n) = ((x.toNat / 2 ^ (j * n) * 2 ^ (j * n) : Nat) : Int) ∧
    Builtin.bitXor x (x.fdiv (2 ^ (j * n)) * 2 ^ (j * n)) = ((x.toNat % 2 ^ (j * n) : Nat) : Int) ∧
    x.toNat % 2 ^ (j * n) < 2 ^ (j * n) ∧ x.toNat / 2 ^ (j * n) < 2 ^ ((k - j) * n) ∧ x.toNat % 2 ^ (j * n) < 2 ^ 64 ∧ x.toNat / 2 ^ (j * n) < 2 ^ 64 := by
  obtain ⟨y, rfl⟩ : ∃ y : Nat, x = y := ⟨x.toNat, by lia⟩
  have q6 : y < 2 ^ (k * n) := by exact_mod_cast p6
  have q7 : y < 2 ^ 64 := by exact_mod_cast p7
  have e1 : lo + (j : Int) - lo = j := by lia
  have e2 : (j : Int) * (n : Int) = ((j * n : Nat) : Int) := by rw [Int.natCast_mul]
  have e3 : (y : Int).fdiv (2 ^ (j * n)) = ((y / 2 ^ (j * n) : Nat) : Int) := by
    rw [Int.fdiv_eq_ediv_of_nonneg _ (Int.le_of_lt (Int.pow_pos (by decide)))]
    rw [Int.natCast_ediv, Int.natCast_pow]; rfl
  have e4 : (y : Int).fdiv (2 ^ (j * n)) * 2 ^ (j * n) = ((y / 2 ^ (j * n) * 2 ^ (j * n) : Nat) : Int) := by
    rw [e3, Int.natCast_mul, Int.natCast_pow]; rfl
  rw [e1, e2]
  simp only [Int.toNat_natCast]
  refine ⟨trivial, Int.natCast_nonneg _, e3, e4, ?_, Nat.mod_lt _ (Nat.two_pow_pos _), ?_, ?_, ?_⟩
  · rw [e4]; exact xor_low y (j * n)
  · refine Nat.div_lt_of_lt_mul ?_
    rw [← Nat.pow_add, ← Nat.add_mul, Nat.add_sub_cancel' (by lia)]
    exact q6
  · exact Nat.lt_of_le_of_lt (Nat.mod_le _ _) q7
  · exact Nat.lt_of_le_of_lt (Nat.div_le_self _ _) q7

section
variable {prog : Program} {w : World} {A : Around} {E : Value → Shared → Prop} {s : Shared} {Q : Value → Shared → Prop} {x lo hi : Int} {j k n : Nat} {t u : Tok}
theorem rsh_mid (p1 : 0 ≤ lo) (p2 : lo + k = hi) (hne : lo + 1 ≠ hi) (p4 : 0 < k) (h : ∀ j : Nat, 0 < j → j < k → Q (.int (lo + j) s.toks) { s with toks := s.toks + 1 }) : wpAny (model prog w) A (binaryOp .RShift (.int (lo + hi) t) (.int 1 u)) Q E s := by
  obtain ⟨j, e, h1, h2⟩ := mid_facts p1 p2 hne p4
  refine rshift_int (by decide) ?_
  rw [e]; exact h j h1 h2
theorem rsh_hi (p5 : 0 ≤ x) (hj : j < k) (p6 : PySem.Flt.Hid (x < 2 ^ (k * n))) (p7 : x < 2 ^ 64) (h : Q (.int ((x.toNat / 2 ^ (j * n) : Nat) : Int) s.toks) { s with toks := s.toks + 1 }) : wpAny (model prog w) A (binaryOp .RShift (.int x t) (.int ((lo + j - lo) * (n : Int)) u)) Q E s := by
  obtain ⟨e1, e2, e3, -⟩ := halves (lo := lo) p5 hj p6.out p7
  refine rshift_int e2 ?_
  rw [e1, e3]; exact h
theorem lsh_hi (p5 : 0 ≤ x) (hj : j < k) (p6 : PySem.Flt.Hid (x < 2 ^ (k * n))) (p7 : x < 2 ^ 64) (hk : k ≤ 1000) (hn : n ≤ 64) (h : Q (.int ((x.toNat / 2 ^ (j * n) * 2 ^ (j * n) : Nat) : Int) s.toks) { s with toks := s.toks + 1 }) :
    wpAny (model prog w) A (binaryOp .LShift (.int ((x.toNat / 2 ^ (j * n) : Nat) : Int) t) (.int ((lo + j - lo) * (n : Int)) u)) Q E s := by
  obtain ⟨e1, e2, e3, e4, e5, e6, e7, e8, e9⟩ := halves (lo := lo) p5 hj p6.out p7
  refine lshift_int_small e2 ?_ (by rw [Int.natAbs_natCast]; exact e9) ?_
  · have : (lo + (j : Int) - lo) * (n : Int) ≤ (1000 : Int) * 64 := Int.mul_le_mul (by lia) (by lia) (by lia) (by lia)
    lia
  · rw [e1, ← e3, e4]; exact h
theorem xor_hi (p5 : 0 ≤ x) (hj : j < k) (p6 : PySem.Flt.Hid (x < 2 ^ (k * n))) (p7 : x < 2 ^ 64) (h : Q (.int ((x.toNat % 2 ^ (j * n) : Nat) : Int) s.toks) { s with toks := s.toks + 1 }) :
    wpAny (model prog w) A (binaryOp .BitXor (.int x t) (.int ((x.toNat / 2 ^ (j * n) * 2 ^ (j * n) : Nat) : Int) u)) Q E s := by
  obtain ⟨e1, e2, e3, e4, e5, e6, e7, e8, e9⟩ := halves (lo := 0) p5 hj p6.out p7
  refine xor_int ?_
  rw [← e4, e5]; exact h
end
/-- the list behind both calls -/
theorem both_halves {ms : List Int} {x lo hi : Int} {j k n : Nat} (p1 : 0 ≤ lo) (p2 : lo + k = hi) (p3 : hi ≤ ms.length) (h1 : 0 < j) (h2 : j < k) :
    (ms.take lo.toNat ++ dgI n j ((x.toNat % 2 ^ (j * n) : Nat) : Int).toNat ++ ms.drop (lo + j).toNat).take (lo + j).toNat ++ dgI n (k - j) ((x.toNat / 2 ^ (j * n) : Nat) : Int).toNat ++ (ms.take lo.toNat ++ dgI n j ((x.toNat % 2 ^ (j * n) : Nat) : Int).toNat ++ ms.drop (lo + j).toNat).drop hi.toNat
      = ms.take lo.toNat ++ dgI n k x.toNat ++ ms.drop hi.toNat := by
  simp only [Int.toNat_natCast]
  rw [put_two (by lia) (by lia) (by lia) (by rw [dgI_length]; lia)]
  have : k = j + (k - j) := by lia
  rw [this, dgI_add]
  simp
theorem first_len {ms : List Int} {x lo hi : Int} {j k n : Nat} (p1 : 0 ≤ lo) (p2 : lo + k = hi) (p3 : hi ≤ ms.length) (h2 : j < k) :
    (ms.take lo.toNat ++ dgI n j ((x.toNat % 2 ^ (j * n) : Nat) : Int).toNat ++ ms.drop (lo + j).toNat).length = ms.length := by
  rw [List.length_append, List.length_append, dgI_length, List.length_take, List.length_drop]; omega
theorem one_place {ms : List Int} {x lo hi : Int} {k n : Nat} (p1 : 0 ≤ lo) (p2 : lo + k = hi) (p3 : hi ≤ ms.length) (he : lo + 1 = hi) (p5 : 0 ≤ x) (p6 : x < 2 ^ (k * n)) :
    ms.set lo.toNat x = ms.take lo.toNat ++ dgI n k x.toNat ++ ms.drop hi.toNat := by
  have hk : k = 1 := by lia
  subst hk
  have q6 : x.toNat < 2 ^ n := by
    obtain ⟨y, rfl⟩ : ∃ y : Nat, x = y := ⟨x.toNat, by lia⟩
    rw [Nat.one_mul] at p6
    exact_mod_cast p6
  have e : hi.toNat = lo.toNat + 1 := by lia
  have e2 : ((x.toNat : Nat) : Int) = x := by lia
  rw [put_one (by lia), dgI_one q6, e, e2]
end Mine
end
section
open PySem PySem.W PyProof.Rows PySem.Calls PySem.Spec
set_option Elab.async false
set_option maxRecDepth 100000
namespace Mine
/-- a code table: bare, or with the one inner def's code -/
noncomputable def TabPs (l c : Nat) (qual : Str) (ps : Array Value) (h : Heap) : Prop := ps = #[] ∨ ∃ c', ps = #[rawInt l, rawInt c, .ref c'] ∧ h.CodeRec (.ref c') qual
noncomputable def TabOk (P : Addr) (l c : Nat) (qual : Str) (h : Heap) : Prop := ∃ ps, h.get? P = some (tabObj ps) ∧ TabPs l c qual ps h
noncomputable abbrev q44 : Str := Str.ofString "_int2digits.<locals>.inner"
noncomputable abbrev q51 : Str := Str.ofString "_digits2int.<locals>.inner"
noncomputable abbrev Tab44 := TabOk 44 73 4 q44
noncomputable abbrev Tab51 := TabOk 51 88 4 q51
/-- what a call that makes the inner def does with its code table: a bare one is filled, a filled one stays -/
noncomputable def TabStep (P : Addr) (l c : Nat) (qual : Str) (h h' : Heap) : Prop :=
  (∃ c', h.get? P = some (tabObj #[]) ∧ h'.get? P = some (tabObj #[rawInt l, rawInt c, .ref c']) ∧ h'.CodeRec (.ref c') qual ∧ h.get? c' = none) ∨
  (∃ c', h.get? P = some (tabObj #[rawInt l, rawInt c, .ref c']) ∧ h'.get? P = some (tabObj #[rawInt l, rawInt c, .ref c']) ∧ h'.CodeRec (.ref c') qual)
noncomputable abbrev Step44 := TabStep 44 73 4 q44
noncomputable abbrev Step51 := TabStep 51 88 4 q51
theorem TabStep.bare {P : Addr} {l c : Nat} {qual : Str} {h h' : Heap} {c' : Addr} (h0 : h.get? P = some (tabObj #[])) (h1 : h'.get? P = some (tabObj #[rawInt l, rawInt c, .ref c'])) (hc : h'.CodeRec (.ref c') qual) (hf : (hideAll h [P]).get? c' = none) : TabStep P l c qual h h' :=
  .inl ⟨c', h0, h1, hc, by
    by_cases e : c' = P
    · subst e
      obtain ⟨c₂, oc, vs, t, e2, ho, hd, hv⟩ := hc
      cases e2
      rw [h1] at ho; cases ho; cases hd
      simp [rawInt] at hv
    · cases e3 : h.get? c' with
      | none => rfl
      | some o => rw [hideAll_get _ e3 (by simpa using e)] at hf; cases hf⟩
theorem TabStep.same {P : Addr} {l c : Nat} {qual : Str} {h h' : Heap} {c' : Addr} (h0 : h.get? P = some (tabObj #[rawInt l, rawInt c, .ref c'])) (h1 : h'.get? P = some (tabObj #[rawInt l, rawInt c, .ref c'])) (hc : h'.CodeRec (.ref c') qual) : TabStep P l c qual h h' :=
  .inr ⟨c', h0, h1, hc⟩
theorem codeRec_but {h h' : Heap} {c' : Addr} {qual : Str} (hc : h.CodeRec (.ref c') qual) (as : List Addr) (ha : ∀ a ∈ as, ∀ o, h.get? a = some o → ∀ vs, o.data = .fields vs → ∀ t, vs[1]? ≠ some (.str qual t))
    (k : ∀ b o, b ∉ as → h.get? b = some o → h'.get? b = some o) : h'.CodeRec (.ref c') qual := by
  obtain ⟨c₂, oc, vs, t, e, ho, hd, hv⟩ := hc
  refine ⟨c₂, oc, vs, t, e, k _ _ (fun q => ha _ q oc ho vs hd t hv) ho, hd, hv⟩
theorem codeRec_hide {h : Heap} {lst c' : Addr} {its : Array Value} {e : Nat} {qual : Str} (hl : h.get? lst = some (W.listOf its e)) (hc : h.CodeRec (.ref c') qual) : (hideAll h [lst]).CodeRec (.ref c') qual :=
  codeRec_but hc [lst] (fun a ha o ho vs hd t => by
    rw [List.mem_singleton.mp ha, hl] at ho
    cases ho; cases hd) (fun b o hb e => hideAll_get _ e hb)
theorem tab_ne {h : Heap} {P : Addr} {l c : Nat} {qual q2 : Str} (ht : TabOk P l c qual h) : ∀ o, h.get? P = some o → ∀ vs, o.data = .fields vs → ∀ t, vs[1]? ≠ some (.str q2 t) := by
  obtain ⟨ps, hP, hps⟩ := ht
  intro o ho vs hd t hv
  rw [hP] at ho
  cases ho
  cases hd
  rcases hps with rfl | ⟨c', rfl, -⟩
  · simp at hv
  · simp [rawInt] at hv
theorem codeRec_hideT {h : Heap} {P c' : Addr} {l c : Nat} {qual q2 : Str} (ht : TabOk P l c qual h) (hc : h.CodeRec (.ref c') q2) : (hideAll h [P]).CodeRec (.ref c') q2 :=
  codeRec_but hc [P] (fun a ha => by rw [List.mem_singleton.mp ha]; exact tab_ne ht) (fun b o hb e => hideAll_get _ e hb)
/-- a table stands while others change -/
theorem TabOk.keeps {h h' : Heap} {P : Addr} {l c : Nat} {qual : Str} (ht : TabOk P l c qual h) (as : List Addr) (hP : P ∉ as) (ha : ∀ a ∈ as, ∀ o, h.get? a = some o → ∀ vs, o.data = .fields vs → ∀ t, vs[1]? ≠ some (.str qual t))
    (k : ∀ b o, b ∉ as → h.get? b = some o → h'.get? b = some o) : TabOk P l c qual h' := by
  obtain ⟨ps, e, hps⟩ := ht
  refine ⟨ps, k _ _ hP e, ?_⟩
  rcases hps with rfl | ⟨c', rfl, hc⟩
  · exact .inl rfl
  · exact .inr ⟨c', rfl, codeRec_but hc as ha k⟩
theorem TabOk.stays {h h' : Heap} {P : Addr} {l c : Nat} {qual : Str} (ht : TabOk P l c qual h) (k : ∀ b o, h.get? b = some o → h'.get? b = some o) : TabOk P l c qual h' :=
  ht.keeps [] (by simp) (by simp) (fun b o _ e => k b o e)
theorem keep_but {s h' : Heap} {a : Addr} {L : Addr} {m : Str → Option Value} (F : Fr (hideAll s [a]) L h' m) : ∀ b o, b ≠ a → s.get? b = some o → h'.get? b = some o :=
  fun b o hb e => F.keep b o (hide1_get e hb)
theorem fresh_hide {s : Heap} {a b : Addr} (h : (hideAll s [a]).get? b = none) (hb : b ≠ a) : s.get? b = none := by
  cases e : s.get? b with
  | none => rfl
  | some o => rw [hide1_get e hb] at h; cases h
theorem rep_drop {k n x : Nat} {v : Int} : (List.replicate k v).take (Int.toNat 0) ++ dgI n k x ++ (List.replicate k v).drop ((k : Int).toNat) = dgI n k x := by simp
theorem lt_cast {y k : Nat} (h : y < 2 ^ k) : ((y : Nat) : Int) < 2 ^ k := by exact_mod_cast h
theorem sub_lt' {j k : Nat} (_h : j < k) (h0 : 0 < j) : k - j < k := by omega
end Mine
end
section
/-! the value of digits -/
namespace Mine
theorem p2 (n : Nat) : (0 : Int) < 2 ^ n := Int.pow_pos (by decide)
/-- the value of digits, the lowest first -/
noncomputable def dv (n : Nat) : List Int → Int
  | [] => 0
  | d :: r => d + 2 ^ n * dv n r
theorem dv_append (n : Nat) : ∀ l r : List Int, dv n (l ++ r) = dv n l + 2 ^ (l.length * n) * dv n r
  | [], r => by simp [dv]
  | d :: l, r => by
    rw [List.cons_append, dv, dv, dv_append n l r, List.length_cons, Nat.succ_mul, Nat.add_comm, Int.pow_add, Int.mul_add, Int.mul_assoc]
    lia
theorem dv_nonneg (n : Nat) : ∀ l : List Int, (∀ d ∈ l, 0 ≤ d) → 0 ≤ dv n l
  | [], _ => Int.le_refl _
  | d :: l, h => by
    have h1 := dv_nonneg n l fun x hx => h x (List.mem_cons_of_mem _ hx)
    have h2 := h d List.mem_cons_self
    have h3 := Int.mul_nonneg (Int.le_of_lt (p2 n)) h1
    rw [dv]; lia
noncomputable def slc (ms : List Int) (lo k : Nat) : List Int := (ms.drop lo).take k
theorem slc_add (ms : List Int) (lo j k : Nat) (h : j ≤ k) : slc ms lo k = slc ms lo j ++ slc ms (lo + j) (k - j) := by
  unfold slc
  have : k = j + (k - j) := by lia
  rw [this, List.take_add, List.drop_drop]
  congr 2
  lia
theorem slc_len (ms : List Int) (lo k : Nat) (h : lo + k ≤ ms.length) : (slc ms lo k).length = k := by
  unfold slc; rw [List.length_take, List.length_drop]; lia
theorem slc_mem {ms : List Int} {lo k : Nat} {x : Int} (h : x ∈ slc ms lo k) : x ∈ ms := List.mem_of_mem_drop (List.mem_of_mem_take h)
theorem slc_one {ms : List Int} {lo : Nat} (h : lo < ms.length) : slc ms lo 1 = [ms[lo]] := by
  unfold slc
  rw [List.drop_eq_getElem_cons h]; rfl
theorem slc_all (ms : List Int) : slc ms 0 ms.length = ms := by simp [slc]
/-- the two halves' values -/
theorem dv_halves {n lo j k : Nat} {ms : List Int} (hn : ∀ d ∈ ms, 0 ≤ d) (hj : j < k) (hl : lo + k ≤ ms.length) :
    dv n (slc ms lo k) = dv n (slc ms (lo + j) (k - j)) * 2 ^ (j * n) + dv n (slc ms lo j) ∧ 0 ≤ dv n (slc ms (lo + j) (k - j)) ∧ 0 ≤ dv n (slc ms lo j) ∧
    dv n (slc ms (lo + j) (k - j)) ≤ dv n (slc ms lo k) ∧ dv n (slc ms lo j) ≤ dv n (slc ms lo k) := by
  have e := congrArg (dv n) (slc_add ms lo j k (by lia))
  rw [dv_append, slc_len ms lo j (by lia)] at e
  have h1 := dv_nonneg n (slc ms (lo + j) (k - j)) fun x hx => hn x (slc_mem hx)
  have h2 := dv_nonneg n (slc ms lo j) fun x hx => hn x (slc_mem hx)
  have hp : (1 : Int) ≤ 2 ^ (j * n) := p2 _
  generalize (2 : Int) ^ (j * n) = p at *
  have h3 := Int.mul_le_mul_of_nonneg_right hp h1
  rw [Int.mul_comm p] at e h3
  refine ⟨by lia, h1, h2, by lia, ?_⟩
  have := Int.mul_nonneg h1 (show 0 ≤ p by lia)
  lia
/-- digits of a number have its value -/
theorem dv_dgI (n : Nat) : ∀ k x, x < 2 ^ (k * n) → dv n (dgI n k x) = x
  | 0, x, h => by
    have : x = 0 := by simpa using h
    subst this; rfl
  | k + 1, x, h => by
    have h1 : x / 2 ^ n < 2 ^ (k * n) := by
      refine Nat.div_lt_of_lt_mul ?_
      rw [← Nat.pow_add, Nat.add_comm, ← Nat.succ_mul]; exact h
    have e := dv_dgI n k (x / 2 ^ n) h1
    unfold dgI at e ⊢
    rw [dg, List.map_cons, dv, e]
    have := Nat.mod_add_div x (2 ^ n)
    have t2 : ((x % 2 ^ n : Nat) : Int) + 2 ^ n * ((x / 2 ^ n : Nat) : Int) = x := by exact_mod_cast this
    exact t2
end Mine
end
section
open PySem PySem.W PyProof.Rows PySem.Calls PySem.Spec
set_option Elab.async false
set_option maxRecDepth 100000
namespace Mine
/-- what the inner def of _digits2int does with k places -/
noncomputable def DSpec (w : World) (name qual : Str) (params : Arguments) (body : List Stmt) (scope : Scope) (cl : List (Str × Addr)) (n : Nat) (k : Nat) : Prop :=
  ∀ (loose : List Str) (mean : ExcName → Option Value) (mg mb : Str → Option Value) (dp un : Nat) (fr : Option (List Env)) (gd : Option (List Code)) (s : Shared) (Q E : Value → Shared → Prop) (g₀ : Heap)
    (f c' ca ci cn lst : Addr) (doc pm ctv : Value) (oa oi on : Obj) (vs : List Value) (ms : List Int) (tn tl th : Tok) (lo hi : Int),
    (Mine.hk.heap_1 w.params).In g₀ → Top topProg loose mean mg mb g₀ → g₀.StaysIn s.heap → dp + k < 950 →
    s.heap.get? f = some (fnMade name qual params body scope cl doc pm c' ctv) → s.heap.CodeRec (.ref c') qual →
    cl.lookup (Str.ofString "digits") = some ca → cl.lookup (Str.ofString "inner") = some ci → cl.lookup (Str.ofString "n") = some cn →
    s.heap.get? ca = some oa → oa.data = .cell (some (.ref lst)) → s.heap.get? ci = some oi → oi.data = .cell (some (.ref f)) → s.heap.get? cn = some on → on.data = .cell (some (.int n tn)) →
    s.heap.IsList lst vs.toArray → IntsAre vs ms → ms.length ≤ 1000 → 0 < n → n ≤ 64 →
    0 ≤ lo → lo + k = hi → hi ≤ ms.length → 0 < k → (∀ d ∈ ms, 0 ≤ d) → dv n (slc ms lo.toNat k) < 2 ^ 64 →
    (∀ h' tk t, (∀ b o, s.heap.get? b = some o → h'.get? b = some o) → Q (.int (dv n (slc ms lo.toNat k)) t) { s with heap := h', toks := tk }) →
    wpAny (model PySem.Challenge.rw_rl0058_01.row.prog w) (AA dp fr gd un) (call (.ref f) [.int lo tl, .int hi th]) Q E s
theorem dsp_of {w : World} {name qual : Str} {params : Arguments} {body : List Stmt} {scope : Scope} {cl : List (Str × Addr)} {n : Nat} (h : ∀ k, (∀ k', k' < k → DSpec w name qual params body scope cl n k') → DSpec w name qual params body scope cl n k) (k : Nat) : DSpec w name qual params body scope cl n k :=
  Nat.strongRecOn k h
section
variable {w : World} {name qual : Str} {params : Arguments} {body : List Stmt} {scope : Scope} {cl : List (Str × Addr)} {n : Nat} {loose : List Str} {mean : ExcName → Option Value} {mg mb : Str → Option Value} {dp un : Nat} {fr : Option (List Env)} {gd : Option (List Code)} {s : Shared} {Q E : Value → Shared → Prop}
  {h₀ : Heap} {L : Addr} {m : Str → Option Value} {news : List (Addr × Obj)} {f c' ca ci cn lst : Addr} {doc pm ctv : Value} {oa oi on : Obj} {vs : List Value} {ms : List Int} {tn tl th : Tok} {lo hi : Int}
theorem dinner_use {k : Nat} (sp : DSpec w name qual params body scope cl n k) (X : (Mine.hk.heap_1 w.params).In h₀) (T : Top topProg loose mean mg mb h₀) (F : Fr h₀ L s.heap m) (N : News h₀ L s.heap news) (hd : dp + k < 950)
    (hf : s.heap.get? f = some (fnMade name qual params body scope cl doc pm c' ctv)) (hc : s.heap.CodeRec (.ref c') qual)
    (l1 : cl.lookup (Str.ofString "digits") = some ca) (l2 : cl.lookup (Str.ofString "inner") = some ci) (l3 : cl.lookup (Str.ofString "n") = some cn)
    (a1 : s.heap.get? ca = some oa) (d1 : oa.data = .cell (some (.ref lst))) (a2 : s.heap.get? ci = some oi) (d2 : oi.data = .cell (some (.ref f))) (a3 : s.heap.get? cn = some on) (d3 : on.data = .cell (some (.int n tn)))
    (U : h₀.IsList lst vs.toArray) (hI : IntsAre vs ms) (hl : ms.length ≤ 1000) (n0 : 0 < n) (n1 : n ≤ 64)
    (p1 : 0 ≤ lo) (p2 : lo + k = hi) (p3 : hi ≤ ms.length) (p4 : 0 < k) (p5 : ∀ d ∈ ms, 0 ≤ d) (p6 : dv n (slc ms lo.toNat k) < 2 ^ 64)
    (h : ∀ h' tk t, Fr h₀ L h' m → News h₀ L h' news → Q (.int (dv n (slc ms lo.toNat k)) t) { s with heap := h', toks := tk }) :
    wpAny (model PySem.Challenge.rw_rl0058_01.row.prog w) (AA dp fr gd un) (call (.ref f) [.int lo tl, .int hi th]) Q E s := by
  refine sp loose mean mg mb dp un fr gd s Q E h₀ f c' ca ci cn lst doc pm ctv oa oi on vs ms tn tl th lo hi X T F.keep hd hf hc l1 l2 l3 a1 d1 a2 d2 a3 d3 (U.at fun o e => F.keep _ o e) hI hl n0 n1 p1 p2 p3 p4 p5 p6 fun h' tk t hk => ?_
  exact h h' tk t (F.keeps hk) (N.grown hk)
end
section
variable {prog : Program} {w : World} {A : Around} {E : Value → Shared → Prop} {s : Shared} {Q : Value → Shared → Prop} {x lo hi : Int} {j k n : Nat} {t u : Tok}
theorem lsh_d (p5 : 0 ≤ x) (p7 : x < 2 ^ 64) (hj : j < k) (hk : k ≤ 1000) (hn : n ≤ 64) (h : Q (.int (x * 2 ^ (j * n)) s.toks) { s with toks := s.toks + 1 }) :
    wpAny (model prog w) A (binaryOp .LShift (.int x t) (.int ((lo + j - lo) * (n : Int)) u)) Q E s := by
  have e1 : lo + (j : Int) - lo = j := by lia
  have e2 : (j : Int) * (n : Int) = ((j * n : Nat) : Int) := by rw [Int.natCast_mul]
  have e3 : j * n ≤ 64000 := Nat.le_trans (Nat.mul_le_mul (show j ≤ 1000 by lia) hn) (by decide)
  rw [e1, e2]
  refine lshift_int_small (Int.natCast_nonneg _) (by lia) (by lia) ?_
  rw [Int.toNat_natCast]; exact h
end
theorem one_digit {ms : List Int} {lo hi : Int} {k n : Nat} (p1 : 0 ≤ lo) (p2 : lo + k = hi) (p3 : hi ≤ ms.length) (he : lo + 1 = hi) : ms[lo.toNat]? = some (dv n (slc ms lo.toNat k)) := by
  have hk : k = 1 := by lia
  subst hk
  have hl : lo.toNat < ms.length := by lia
  rw [slc_one hl, dv, dv, Int.mul_zero, Int.add_zero, List.getElem?_eq_getElem hl]
theorem two_halves {ms : List Int} {lo hi : Int} {j k n : Nat} (p1 : 0 ≤ lo) (p2 : lo + k = hi) (p3 : hi ≤ ms.length) (hn : ∀ d ∈ ms, 0 ≤ d) (hj : j < k) :
    dv n (slc ms (lo + j).toNat (k - j)) * 2 ^ (j * n) + dv n (slc ms lo.toNat j) = dv n (slc ms lo.toNat k) := by
  have e : (lo + j).toNat = lo.toNat + j := by lia
  rw [e, ← (dv_halves (n := n) hn hj (lo := lo.toNat) (by lia)).1]
theorem half_hi {ms : List Int} {lo hi : Int} {j k n : Nat} (p1 : 0 ≤ lo) (p2 : lo + k = hi) (p3 : hi ≤ ms.length) (hn : ∀ d ∈ ms, 0 ≤ d) (hj : j < k) (p6 : dv n (slc ms lo.toNat k) < 2 ^ 64) :
    0 ≤ dv n (slc ms (lo + j).toNat (k - j)) ∧ dv n (slc ms (lo + j).toNat (k - j)) < 2 ^ 64 := by
  have e : (lo + j).toNat = lo.toNat + j := by lia
  have := dv_halves (n := n) hn hj (lo := lo.toNat) (by lia)
  rw [e]; lia
theorem half_lo {ms : List Int} {lo hi : Int} {j k n : Nat} (p1 : 0 ≤ lo) (p2 : lo + k = hi) (p3 : hi ≤ ms.length) (hn : ∀ d ∈ ms, 0 ≤ d) (hj : j < k) (p6 : dv n (slc ms lo.toNat k) < 2 ^ 64) :
    dv n (slc ms lo.toNat j) < 2 ^ 64 := by
  have := dv_halves (n := n) hn hj (lo := lo.toNat) (by omega)
  omega
end Mine
namespace Mine
theorem isList_hide {h : Heap} {P d : Addr} {ps its : Array Value} (hP : h.get? P = some (tabObj ps)) (hL : h.IsList d its) : (hideAll h [P]).IsList d its :=
  hL.at fun o e => hide1_get e (fun q => by
    obtain ⟨o', e', hc, n, hd⟩ := hL
    rw [q, hP] at e'
    cases e'; cases hd)
end Mine
namespace Mine
theorem one_digit' {ms : List Int} {lo hi : Int} {k n : Nat} (p1 : 0 ≤ lo) (p2 : lo + k = hi) (p3 : hi ≤ ms.length) (he : lo + 1 = hi) : ms.getD lo.toNat 0 = dv n (slc ms lo.toNat k) := by
  rw [List.getD_eq_getElem?_getD, one_digit (n := n) p1 p2 p3 he]; rfl
theorem sub_pos' {j k : Nat} (h : j < k) : 0 < k - j := by omega
end Mine
end
section
/-! long division, digit by digit -/
open PySem PySem.W PyProof.Rows
namespace Mine
theorem mul_add_div_my {x y b : Nat} (hb : 0 < b) : (x * b + y) / b = x + y / b := by rw [Nat.add_comm, Nat.add_mul_div_right _ _ hb, Nat.add_comm]
theorem dg_get (n : Nat) : ∀ k x j, j < k → (dg n k x)[j]? = some (x / 2 ^ (j * n) % 2 ^ n)
  | 0, x, j, h => by lia
  | k + 1, x, 0, h => by simp [dg]
  | k + 1, x, j + 1, h => by
    rw [dg, List.getElem?_cons_succ, dg_get n k (x / 2 ^ n) j (by lia), Nat.div_div_eq_div_mul, ← Nat.pow_add, Nat.succ_mul, Nat.add_comm]
theorem dgI_get {n k x j : Nat} (h : j < k) : (dgI n k x)[j]? = some ((x / 2 ^ (j * n) % 2 ^ n : Nat) : Int) := by
  rw [dgI, List.getElem?_map, dg_get n k x j h]; rfl
theorem bits_my {x : Int} (h0 : 0 ≤ x) (h : x < 18446744073709551616) : Builtin.Int.intBits x ≤ 64 := by
  obtain ⟨y, rfl⟩ : ∃ y : Nat, x = y := ⟨x.toNat, by lia⟩
  exact bits_le (k := 64) (by lia)
/-- what holds ahead of turn i -/
structure DP (a b n k i : Nat) (r : Int) (qs : List Int) : Prop where
  hr : r = ((a / 2 ^ ((k - i) * n) % b : Nat) : Int)
  hq : dv n qs.reverse = ((a / 2 ^ ((k - i) * n) / b : Nat) : Int)
  nn : ∀ q ∈ qs, 0 ≤ q
  len : qs.length = i
theorem dp_start {a b n k : Nat} (hk : a < 2 ^ (k * n)) : DP a b n k 0 0 [] := by
  have : a / 2 ^ ((k - 0) * n) = 0 := by rw [Nat.sub_zero]; exact Nat.div_eq_of_lt hk
  refine ⟨by rw [this, Nat.zero_mod]; rfl, by rw [this, Nat.zero_div]; rfl, (fun q hq => by cases hq), rfl⟩
theorem dp_num {a b n k i : Nat} {r : Int} {qs : List Int} (h : DP a b n k i r qs) (hb0 : 0 < b) (hb : b < 2147483648) (hn : n ≤ 31) :
    0 ≤ r ∧ r < 2147483648 ∧ ∀ d : Nat, d < 2 ^ n → 0 ≤ r * 2 ^ n + (d : Int) ∧ r * 2 ^ n + (d : Int) < 18446744073709551616 := by
  have h1 := Nat.mod_lt (a / 2 ^ ((k - i) * n)) hb0
  have h2 := h.hr
  have hr0 : 0 ≤ r := by lia
  have hr1 : r < 2147483648 := by lia
  refine ⟨hr0, hr1, fun d hd => ?_⟩
  have hp : 2 ^ n ≤ 2 ^ 31 := Nat.pow_le_pow_right (by decide) hn
  have hp' : (2 : Int) ^ n ≤ 2147483648 := by
    have h9 : ((2 ^ n : Nat) : Int) ≤ 2147483648 := Int.ofNat_le.mpr hp
    rw [Int.natCast_pow] at h9
    exact h9
  have h0 := Int.mul_nonneg hr0 (Int.le_of_lt (p2 n))
  have h3 := Int.mul_le_mul_of_nonneg_left hp' hr0
  constructor
  · lia
  · lia
theorem dp_step {a b n k i : Nat} {r : Int} {qs : List Int} (h : DP a b n k i r qs) (hb0 : 0 < b) (hi : i < k) :
    DP a b n k (i + 1) ((r * 2 ^ n + ((a / 2 ^ ((k - 1 - i) * n) % 2 ^ n : Nat) : Int)).fmod b) (qs ++ [(r * 2 ^ n + ((a / 2 ^ ((k - 1 - i) * n) % 2 ^ n : Nat) : Int)).fdiv b]) := by
  have e1 : k - (i + 1) = k - 1 - i := by lia
  have e2 : k - i = (k - 1 - i) + 1 := by lia
  have hA : a / 2 ^ ((k - i) * n) = a / 2 ^ ((k - 1 - i) * n) / 2 ^ n := by rw [e2, Nat.succ_mul, Nat.pow_add, Nat.div_div_eq_div_mul]
  obtain ⟨hr, hq, nn, len⟩ := h
  obtain ⟨A, hA0⟩ : ∃ A, A = a / 2 ^ ((k - 1 - i) * n) := ⟨_, rfl⟩
  rw [← hA0] at hA ⊢
  rw [hA] at hr hq
  have hbI : (0 : Int) ≤ (b : Int) := by lia
  have hnum : r * 2 ^ n + ((A % 2 ^ n : Nat) : Int) = ((A / 2 ^ n % b * 2 ^ n + A % 2 ^ n : Nat) : Int) := by rw [hr]; push_cast; rfl
  rw [hnum, Int.fdiv_eq_ediv_of_nonneg _ hbI, Int.fmod_eq_emod_of_nonneg _ hbI]
  have hsplit : A = A / 2 ^ n / b * 2 ^ n * b + (A / 2 ^ n % b * 2 ^ n + A % 2 ^ n) := by
    have s1 := Nat.div_add_mod A (2 ^ n)
    have s2 := Nat.div_add_mod (A / 2 ^ n) b
    have : A / 2 ^ n / b * 2 ^ n * b + A / 2 ^ n % b * 2 ^ n = A / 2 ^ n * 2 ^ n := by
      have s3 : (b * (A / 2 ^ n / b) + A / 2 ^ n % b) * 2 ^ n = A / 2 ^ n * 2 ^ n := by rw [s2]
      rw [Nat.add_mul] at s3
      rw [← s3]; congr 1; ac_rfl
    rw [Nat.mul_comm] at s1
    lia
  have hdivA : A / b = A / 2 ^ n / b * 2 ^ n + (A / 2 ^ n % b * 2 ^ n + A % 2 ^ n) / b := by
    conv => lhs; rw [hsplit]
    rw [mul_add_div_my hb0]
  have hmodA : A % b = (A / 2 ^ n % b * 2 ^ n + A % 2 ^ n) % b := by
    conv => lhs; rw [hsplit]
    rw [Nat.mul_add_mod_self_right]
  refine ⟨?_, ?_, ?_, ?_⟩
  · rw [e1, ← hA0, hmodA]; push_cast; rfl
  · rw [List.reverse_append]
    show dv n (_ :: qs.reverse) = _
    rw [dv, hq, e1, ← hA0, hdivA]
    push_cast
    rw [Int.mul_comm (2 ^ n)]
    lia
  · intro q hq'
    rcases List.mem_append.mp hq' with h1 | h1
    · exact nn q h1
    · rw [List.mem_singleton.mp h1]; exact Int.natCast_nonneg _
  · rw [List.length_append, len]; rfl
theorem dp_done {a b n k : Nat} {r : Int} {qs : List Int} (h : DP a b n k k r qs) : r = ((a % b : Nat) : Int) ∧ dv n qs.reverse = ((a / b : Nat) : Int) := by
  have e : a / 2 ^ ((k - k) * n) = a := by simp
  have h1 := h.hr
  have h2 := h.hq
  rw [e] at h1 h2
  exact ⟨h1, h2⟩
end Mine
end
section
/-! floor division of negatives -/
open PySem PySem.W PyProof.Rows
namespace Mine
theorem bitNot_neg {a : Nat} (h : 0 < a) : Builtin.bitNot (-(a : Int)) = ((a - 1 : Nat) : Int) := by unfold Builtin.bitNot; omega
theorem fdiv_unique {a b q r : Int} (hb : 0 < b) (h : a = q * b + r) (h0 : 0 ≤ r) (h1 : r < b) : a.fdiv b = q ∧ a.fmod b = r := by
  rw [Int.fdiv_eq_ediv_of_nonneg _ (Int.le_of_lt hb), Int.fmod_eq_emod_of_nonneg _ (Int.le_of_lt hb)]
  constructor
  · rw [h, Int.add_comm, Int.add_mul_ediv_right _ _ (by lia), Int.ediv_eq_zero_of_lt h0 h1]; lia
  · rw [h, Int.add_comm, Int.add_mul_emod_self_right, Int.emod_eq_of_lt h0 h1]
theorem neg_divmod {a b : Nat} (ha : 0 < a) (hb : 0 < b) :
    (-(a : Int)).fdiv b = Builtin.bitNot (((a - 1 : Nat) : Int).fdiv b) ∧ (-(a : Int)).fmod b = (b : Int) + Builtin.bitNot (((a - 1 : Nat) : Int).fmod b) := by
  have h1 : (((a - 1 : Nat) : Int)).fdiv b = (((a - 1) / b : Nat) : Int) := by rw [Int.fdiv_eq_ediv_of_nonneg _ (Int.natCast_nonneg _)]; rfl
  have h2 : (((a - 1 : Nat) : Int)).fmod b = (((a - 1) % b : Nat) : Int) := by rw [Int.fmod_eq_emod_of_nonneg _ (Int.natCast_nonneg _)]; rfl
  rw [h1, h2]
  have h3 := Nat.div_add_mod (a - 1) b
  have h4 := Nat.mod_lt (a - 1) hb
  unfold Builtin.bitNot
  generalize (a - 1) / b = q at *
  generalize (a - 1) % b = r at *
  have h5 : ((b * q + r : Nat) : Int) = ((a - 1 : Nat) : Int) := by rw [h3]
  rw [Int.natCast_add, Int.natCast_mul] at h5
  refine fdiv_unique (by lia) ?_ (by lia) (by lia)
  have : (-(q : Int) - 1) * b = -(b * q) - b := by rw [Int.sub_mul, Int.neg_mul, Int.one_mul, Int.mul_comm]
  rw [this]
  lia
theorem neg_neg_divmod (a b : Int) : a.fdiv b = (-a).fdiv (-b) ∧ a.fmod b = -((-a).fmod (-b)) := by
  refine ⟨(Int.neg_fdiv_neg a b).symm, ?_⟩
  have := Int.neg_fmod_neg a b
  omega
end Mine
end
section
/-! a varint's octets -/
open PySem PySem.W PyProof.Rows
namespace Mine
noncomputable def gv (a : Int) (l : List Int) : Int := l.foldl (fun a c => a * 64 + c % 64) a
noncomputable def Grp : List Int → Prop
  | [] => False
  | [c] => 0 ≤ c ∧ c < 64
  | c :: d :: r => 64 ≤ c ∧ c < 128 ∧ Grp (d :: r)
theorem gv_cons (a c : Int) (l : List Int) : gv a (c :: l) = gv (a * 64 + c % 64) l := rfl
theorem gv_ge : ∀ (l : List Int) (a : Int), 0 ≤ a → a ≤ gv a l
  | [], a, _ => Int.le_refl a
  | c :: r, a, h => by
    have h1 := Int.emod_nonneg c (show (64 : Int) ≠ 0 by decide)
    have := gv_ge r (a * 64 + c % 64) (by lia)
    rw [gv_cons]; lia
/-- the state ahead of the while's test -/
structure VS (ms post : List Int) (fin j : Nat) (v b val : Int) (n : Nat) (rem : List Int) : Prop where
  drop : ms.drop j = rem ++ post
  pos : j + rem.length = fin
  gvv : gv val rem = v
  nn : 0 ≤ val
  lim : v < 4294967296
  bb : (rem = [] ∧ 0 ≤ b ∧ b < 64) ∨ (Grp rem ∧ 64 ≤ b ∧ b < 128)
  len : n = rem.length
theorem drop_get {ms rem : List Int} {c : Int} {j : Nat} (h : ms.drop j = c :: rem) : ms[j]? = some c ∧ ms.drop (j + 1) = rem := by
  constructor
  · have := congrArg (fun l => l[0]?) h
    simpa using this
  · have := congrArg (List.drop 1) h
    simpa using this
theorem grp_cons {c : Int} {r : List Int} (h : Grp (c :: r)) : 0 ≤ c ∧ c < 128 ∧ ((r = [] ∧ 0 ≤ c ∧ c < 64) ∨ (Grp r ∧ 64 ≤ c ∧ c < 128)) := by
  cases r with
  | nil => exact ⟨h.1, by have := h.2; lia, .inl ⟨rfl, h.1, h.2⟩⟩
  | cons d r => exact ⟨by have := h.1; lia, h.2.1, .inr ⟨h.2.2, h.1, h.2.1⟩⟩
theorem vs_start {ms post : List Int} {i : Nat} {v c : Int} {r : List Int} (hd : ms.drop i = c :: (r ++ post)) (hg : Grp (c :: r)) (hv : gv 0 (c :: r) = v) (hl : v < 4294967296) : VS ms post (i + (r.length + 1)) (i + 1) v c (c % 64) r.length r := by
  have h1 := Int.emod_nonneg c (show (64 : Int) ≠ 0 by decide)
  have h2 := grp_cons hg
  refine ⟨(drop_get hd).2, by lia, ?_, h1, hl, h2.2.2, rfl⟩
  rw [gv_cons] at hv
  simpa using hv
theorem vs_more {ms post : List Int} {fin j n : Nat} {v b val : Int} {rem : List Int} (h : VS ms post fin j v b val n rem) (hb : 64 ≤ b) :
    val < 4294967296 ∧ ∃ c r, ms[j]? = some c ∧ 0 ≤ c ∧ c < 128 ∧ VS ms post fin (j + 1) v c (val * 64 + c % 64) r.length r ∧ r.length < n := by
  have h0 := gv_ge rem val h.nn
  have h00 := h.gvv
  have h01 := h.lim
  refine ⟨by lia, ?_⟩
  rcases h.bb with ⟨_, _, h1⟩ | ⟨h1, _, _⟩
  · lia
  · cases rem with
    | nil => exact h1.elim
    | cons c r =>
      have h2 := grp_cons h1
      have h3 := h.drop
      rw [List.cons_append] at h3
      have h4 := drop_get h3
      have h5 := Int.emod_nonneg c (show (64 : Int) ≠ 0 by decide)
      have h6 := h.pos
      have h7 := h.len
      have h8 := h.nn
      rw [List.length_cons] at h6 h7
      rw [gv_cons] at h00
      exact ⟨c, r, h4.1, h2.1, h2.2.1, ⟨h4.2, by lia, h00, by lia, h01, h2.2.2, rfl⟩, by lia⟩
theorem vs_end {ms post : List Int} {fin j n : Nat} {v b val : Int} {rem : List Int} (h : VS ms post fin j v b val n rem) (hb : b < 64) : val = v ∧ j = fin := by
  rcases h.bb with ⟨h1, _⟩ | ⟨_, h1, _⟩
  · subst h1
    have := h.gvv
    have := h.pos
    simp [gv] at *
    lia
  · lia
theorem nat_and63 (y : Nat) : y &&& 63 = y % 64 := Nat.and_two_pow_sub_one_eq_mod y 6
theorem and63 {b : Int} (h0 : 0 ≤ b) : Builtin.bitAnd b 63 = b % 64 := by
  obtain ⟨y, rfl⟩ : ∃ y : Nat, b = y := ⟨b.toNat, by lia⟩
  unfold Builtin.bitAnd
  rw [decide_eq_true h0]
  show ((y &&& 63 : Nat) : Int) = _
  rw [nat_and63]; rfl
theorem and64 {b : Int} (h0 : 0 ≤ b) (h : b < 128) : Builtin.bitAnd b 64 = if 64 ≤ b then 64 else 0 := by
  obtain ⟨y, rfl⟩ : ∃ y : Nat, b = y := ⟨b.toNat, by lia⟩
  unfold Builtin.bitAnd
  rw [decide_eq_true h0]
  show ((y &&& 64 : Nat) : Int) = _
  have hy : y < 128 := by lia
  have : y &&& 64 = if 64 ≤ y then 64 else 0 := by
    have key : ∀ z : Fin 128, z.val &&& 64 = if 64 ≤ z.val then 64 else 0 := by decide +kernel
    exact key ⟨y, hy⟩
  rw [this]
  split
  · rw [if_pos (by lia)]; rfl
  · rw [if_neg (by lia)]; rfl
theorem nat_or_low (x y : Nat) (h : y < 64) : (x * 64) ||| y = x * 64 + y := by
  have := Nat.two_pow_add_eq_or_of_lt (i := 6) (b := y) h x
  rw [Nat.mul_comm x 64]
  exact this.symm
theorem bitOr_nat (x y : Nat) : Builtin.bitOr (x : Int) (y : Int) = ((x ||| y : Nat) : Int) := by
  have h1 : decide ((0 : Int) ≤ Builtin.bitNot (x : Int)) = false := decide_eq_false (by unfold Builtin.bitNot; lia)
  have h2 : decide ((0 : Int) ≤ Builtin.bitNot (y : Int)) = false := decide_eq_false (by unfold Builtin.bitNot; lia)
  have h3 : ∀ z : Nat, (Builtin.bitNot (Builtin.bitNot (z : Int))).toNat = z := fun z => by unfold Builtin.bitNot; lia
  have h4 : ∀ z : Int, Builtin.bitNot (Builtin.bitNot z) = z := fun z => by unfold Builtin.bitNot; lia
  unfold Builtin.bitOr Builtin.bitAnd
  rw [h1, h2]
  simp only [h4, Int.toNat_natCast]
theorem or_low {x c : Int} (hx : 0 ≤ x) (hc : 0 ≤ c) : Builtin.bitOr (x * 64) (c % 64) = x * 64 + c % 64 := by
  obtain ⟨a, rfl⟩ : ∃ y : Nat, x = y := ⟨x.toNat, by lia⟩
  obtain ⟨b, rfl⟩ : ∃ y : Nat, c = y := ⟨c.toNat, by lia⟩
  have e1 : (a : Int) * 64 = ((a * 64 : Nat) : Int) := by lia
  have e2 : (b : Int) % 64 = ((b % 64 : Nat) : Int) := by lia
  rw [e1, e2, bitOr_nat, nat_or_low _ _ (Nat.mod_lt _ (by decide))]
  lia
end Mine
end
section
/-! the octets of a part -/
open PySem PySem.W PyProof.Rows
namespace Mine
noncomputable def oct (ds : List Int) : List Int := ((ds.drop 1).reverse).map (fun f => 64 + f) ++ (ds ++ [0]).take 1
noncomputable def octP (p : Int) : List Int := oct (dgI 6 (cnt p.toNat 6) p.toNat)
theorem cnt6 {x : Nat} (h : x < 1048576) : cnt x 6 ≤ 4 := by
  have := bits_le (k := 20) h
  unfold cnt
  lia
theorem oct_len {ds : List Int} : (oct ds).length ≤ ds.length + 1 := by
  unfold oct
  rw [List.length_append, List.length_map, List.length_reverse, List.length_drop, List.length_take]
  omega
theorem octP_len {p : Int} (h : p < 1048576) : (octP p).length ≤ 5 := by
  have := oct_len (ds := dgI 6 (cnt p.toNat 6) p.toNat)
  rw [dgI_length] at this
  have := cnt6 (x := p.toNat) (by lia)
  unfold octP
  lia
theorem octs_len : ∀ {l : List Int}, (∀ p ∈ l, p < 1048576) → (l.flatMap octP).length ≤ 5 * l.length
  | [], _ => by simp
  | p :: r, h => by
    have h1 := octP_len (h p List.mem_cons_self)
    have h2 := octs_len fun q hq => h q (List.mem_cons_of_mem _ hq)
    rw [List.flatMap_cons, List.length_append, List.length_cons]
    lia
end Mine
namespace Mine
theorem grp_snoc {d0 : Int} (h0 : 0 ≤ d0 ∧ d0 < 64) : ∀ {l : List Int}, (∀ d ∈ l, 64 ≤ d ∧ d < 128) → Grp (l ++ [d0])
  | [], _ => h0
  | [c], h => ⟨(h c (by simp)).1, (h c (by simp)).2, h0⟩
  | c :: d :: r, h => ⟨(h c (by simp)).1, (h c (by simp)).2, grp_snoc (l := d :: r) h0 fun x hx => h x (List.mem_cons_of_mem _ hx)⟩
theorem gv_append (a : Int) (l r : List Int) : gv a (l ++ r) = gv (gv a l) r := by simp [gv]
theorem gv_rev : ∀ {l : List Int}, (∀ d ∈ l, 0 ≤ d ∧ d < 64) → gv 0 (l.reverse.map fun f => 64 + f) = dv 6 l
  | [], _ => rfl
  | d :: r, h => by
    rw [List.reverse_cons, List.map_append, gv_append, gv_rev fun x hx => h x (List.mem_cons_of_mem _ hx), dv]
    have h1 := h d List.mem_cons_self
    show dv 6 r * 64 + (64 + d) % 64 = _
    have : (64 + d) % 64 = d := by lia
    rw [this]
    have e : (2 : Int) ^ 6 = 64 := by decide
    rw [e]
    lia
theorem dgI_mem {k x : Nat} : ∀ d ∈ dgI 6 k x, 0 ≤ d ∧ d < 64 := by
  intro d hd
  obtain ⟨y, hy, rfl⟩ := List.mem_map.mp hd
  have := dg_lt 6 k x y hy
  constructor
  · exact Int.natCast_nonneg _
  · show (y : Int) < 64
    have : y < 64 := this
    lia
theorem octP_grp {p : Int} (h0 : 0 ≤ p) : ∃ c r, octP p = c :: r ∧ Grp (c :: r) ∧ gv 0 (c :: r) = p := by
  obtain ⟨x, rfl⟩ : ∃ x : Nat, p = x := ⟨p.toNat, by lia⟩
  have key : Grp (octP x) ∧ gv 0 (octP x) = x := by
    unfold octP oct
    simp only [Int.toNat_natCast]
    have hv := dv_dgI 6 (cnt x 6) x (cnt_fits (by decide))
    have hm : ∀ d ∈ dgI 6 (cnt x 6) x, 0 ≤ d ∧ d < 64 := dgI_mem
    generalize dgI 6 (cnt x 6) x = ds at *
    cases ds with
    | nil =>
      have hx : (x : Int) = 0 := hv.symm
      rw [hx]
      exact ⟨⟨by decide, by decide⟩, rfl⟩
    | cons d r =>
      have hd := hm d List.mem_cons_self
      have hr : ∀ y ∈ r, 0 ≤ y ∧ y < 64 := fun y hy => hm y (List.mem_cons_of_mem _ hy)
      constructor
      · refine grp_snoc hd fun y hy => ?_
        obtain ⟨z, hz, rfl⟩ := List.mem_map.mp hy
        have := hr z (List.mem_reverse.mp hz)
        lia
      · show gv 0 ((r.reverse.map fun f => 64 + f) ++ [d]) = x
        rw [gv_append, gv_rev hr]
        show dv 6 r * 64 + d % 64 = x
        rw [dv] at hv
        have e : (2 : Int) ^ 6 = 64 := by decide
        rw [e] at hv
        lia
  cases e : octP x with
  | nil => rw [e] at key; exact key.1.elim
  | cons c r => rw [e] at key; exact ⟨c, r, rfl, key⟩
/-- where part j's octets lie -/
noncomputable def pos (ms : List Int) (j : Nat) : Nat := ((ms.take j).flatMap octP).length
theorem pos_zero (ms : List Int) : pos ms 0 = 0 := rfl
theorem pos_drop {ms : List Int} {j : Nat} (h : j < ms.length) : (ms.flatMap octP).drop (pos ms j) = octP ms[j] ++ (ms.drop (j + 1)).flatMap octP := by
  have e : ms = ms.take j ++ ms[j] :: ms.drop (j + 1) := by rw [← List.drop_eq_getElem_cons h, List.take_append_drop]
  conv => lhs; arg 2; rw [e]
  rw [List.flatMap_append, List.flatMap_cons]
  unfold pos
  rw [List.drop_left]
theorem pos_succ {ms : List Int} {j : Nat} (h : j < ms.length) : pos ms (j + 1) = pos ms j + (octP ms[j]).length := by
  unfold pos
  rw [List.take_add_one, List.getElem?_eq_getElem h, List.flatMap_append, List.length_append]
  simp
theorem pos_all (ms : List Int) : pos ms ms.length = (ms.flatMap octP).length := by unfold pos; rw [List.take_length]
end Mine
end
section
/-! plain definitions of the ring walk -/
namespace Mine
noncomputable abbrev S4 := Int × Int × Int × Int
noncomputable def stp (M : S4) (q : Int) : S4 := (M.2.2.1, M.2.2.2, q * M.2.2.1 - M.1, q * M.2.2.2 - M.2.1)
noncomputable def walkS (l : List Int) : S4 := l.foldl stp (1, 0, 0, 1)
theorem walkS_nil : walkS [] = (1, 0, 0, 1) := rfl
theorem walkS_snoc (l : List Int) (q : Int) : walkS (l ++ [q]) = stp (walkS l) q := by simp [walkS]
/-- the quotient of the walk back -/
noncomputable def bq (a b c d : Int) : Int := if c = 0 then b * d else -(Int.fdiv (-a) c)
/-- its measure -/
noncomputable def mu (a b c d : Int) : Nat := if c = 0 then (if d = 1 then (if b = 0 then 0 else 4) else 2) else if a = 0 ∧ d = 0 then (if c = 1 then 1 else 3) else c.natAbs + 4
noncomputable def Small (M : S4) : Prop := -32768 ≤ M.1 ∧ M.1 ≤ 32768 ∧ -32768 ≤ M.2.1 ∧ M.2.1 ≤ 32768 ∧ -32768 ≤ M.2.2.1 ∧ M.2.2.1 ≤ 32768 ∧ -32768 ≤ M.2.2.2 ∧ M.2.2.2 ≤ 32768
noncomputable def det4 (M : S4) : Int := M.1 * M.2.2.2 - M.2.1 * M.2.2.1
theorem det_stp (M : S4) (q : Int) : det4 (stp M q) = det4 M := by
  obtain ⟨a, b, c, d⟩ := M; simp only [det4, stp]; grind
theorem det_walk (l : List Int) : det4 (walkS l) = 1 := by
  have : ∀ (l : List Int) (M : S4), det4 (l.foldl stp M) = det4 M := by
    intro l; induction l with
    | nil => intro M; rfl
    | cons q r ih => intro M; rw [List.foldl_cons, ih, det_stp]
  rw [walkS, this]; decide
/-- what the row of a ring is -/
structure Ring (row : List Int) : Prop where
  closed : walkS row = (1, 0, 0, 1)
  small : ∀ k, k ≤ row.length → Small (walkS (row.take k))
  pos : 5 ≤ row.length
  short : row.length ≤ 32800
/-- holds while drawing -/
noncomputable def DrawInv (pre : List Int) (a b c d : Int) : Prop := walkS pre = (a, b, c, d) ∧ ∀ k, k ≤ pre.length → Small (walkS (pre.take k))
structure BackInv (row : List Int) (a b c d : Int) : Prop where
  at_ : walkS row = (a, b, c, d)
  small : ∀ k, k ≤ row.length → Small (walkS (row.take k))
  pos : 5 ≤ row.length
  short : row.length + mu a b c d ≤ 32800
theorem small_snoc {l : List Int} {q : Int} (h : ∀ k, k ≤ l.length → Small (walkS (l.take k))) (h' : Small (walkS (l ++ [q]))) : ∀ k, k ≤ (l ++ [q]).length → Small (walkS ((l ++ [q]).take k)) := by
  intro k hk
  rcases Nat.lt_or_ge k (l.length + 1) with h1 | h1
  · rw [List.take_append_of_le_length (by lia)]; exact h k (by lia)
  · have : (l ++ [q]).take k = l ++ [q] := List.take_of_length_le (by simpa using h1)
    rw [this]; exact h'
end Mine
end
section
namespace Mine
theorem fm_eq (a c : Int) : -(Int.fdiv (-a) c) * c - a = Int.fmod (-a) c := by
  have := Int.fmod_def (-a) c
  rw [this, Int.neg_mul, Int.mul_comm c]; lia
theorem fmod_pos {a c : Int} (h : 0 < c) : 0 ≤ Int.fmod a c ∧ Int.fmod a c < c := ⟨Int.fmod_nonneg_of_pos a h, Int.fmod_lt_of_pos a h⟩
theorem fmod_neg {a c : Int} (h : c < 0) : c < Int.fmod a c ∧ Int.fmod a c ≤ 0 := by
  have h1 := Int.neg_fmod_neg a (-c)
  have h2 := fmod_pos (a := -a) (c := -c) (by omega)
  rw [Int.neg_neg] at h1
  have : Int.fmod a c = - Int.fmod (-a) (-c) := by
    have := Int.neg_fmod_neg (-a) (-c)
    simp only [Int.neg_neg] at this
    omega
  omega
theorem next_small {c d e f : Int} (hdet : c * f - d * e = 1) (hc : c ≠ 0) (he : (0 < c ∧ 0 ≤ e ∧ e < c) ∨ (c < 0 ∧ c < e ∧ e ≤ 0)) (hd : -32768 ≤ d ∧ d ≤ 32768) : -32768 ≤ f ∧ f ≤ 32768 := by
  rcases he with ⟨h1, h2, h3⟩ | ⟨h1, h2, h3⟩
  · constructor
    · refine Int.not_lt.mp fun hf => ?_
      have p1 := Int.mul_le_mul_of_nonneg_left (show f ≤ -32769 by lia) (show 0 ≤ c by lia)
      have p2 := Int.mul_le_mul_of_nonneg_right (show -32768 ≤ d by lia) h2
      lia
    · refine Int.not_lt.mp fun hf => ?_
      have p1 := Int.mul_le_mul_of_nonneg_left (show 32769 ≤ f by lia) (show 0 ≤ c by lia)
      have p2 := Int.mul_le_mul_of_nonneg_right (show d ≤ 32768 by lia) h2
      lia
  · constructor
    · refine Int.not_lt.mp fun hf => ?_
      have p1 := Int.mul_le_mul_of_nonneg_left (show f ≤ -32769 by lia) (show 0 ≤ -c by lia)
      have p2 := Int.mul_le_mul_of_nonneg_right (show -32768 ≤ d by lia) (show 0 ≤ -e by lia)
      simp only [Int.neg_mul, Int.mul_neg] at p1 p2
      lia
    · refine Int.not_lt.mp fun hf => ?_
      have p1 := Int.mul_le_mul_of_nonneg_left (show 32769 ≤ f by lia) (show 0 ≤ -c by lia)
      have p2 := Int.mul_le_mul_of_nonneg_right (show d ≤ 32768 by lia) (show 0 ≤ -e by lia)
      simp only [Int.neg_mul, Int.mul_neg] at p1 p2
      lia
theorem unit_cases {a d : Int} (h : a * d = 1) : (a = 1 ∧ d = 1) ∨ (a = -1 ∧ d = -1) := by
  have h1 : a.natAbs * d.natAbs = 1 := by rw [← Int.natAbs_mul, h]; rfl
  have h2 := Nat.eq_one_of_mul_eq_one_right h1
  have h3 := Nat.eq_one_of_mul_eq_one_left h1
  rcases Int.natAbs_eq a with e1 | e1 <;> rcases Int.natAbs_eq d with e2 | e2 <;> rw [e1, e2, h2, h3] at h ⊢ <;> simp at h ⊢
theorem mu_le (a b c d : Int) : mu a b c d ≤ c.natAbs + 4 := by
  have k : ∀ n, n ≤ 4 → n ≤ c.natAbs + 4 := fun n h => Nat.le_trans h (Nat.le_add_left 4 _)
  unfold mu
  repeat' split
  all_goals first | exact k _ (by decide) | exact Nat.le_refl _
theorem abs_less {c e : Int} (h : (0 < c ∧ 0 ≤ e ∧ e < c) ∨ (c < 0 ∧ c < e ∧ e ≤ 0)) : e.natAbs < c.natAbs := by
  rcases h with ⟨_, h2, h3⟩ | ⟨_, h2, h3⟩
  · exact Int.natAbs_lt_natAbs_of_nonneg_of_lt h2 h3
  · rw [← Int.natAbs_neg e, ← Int.natAbs_neg c]; exact Int.natAbs_lt_natAbs_of_nonneg_of_lt (Int.neg_nonneg_of_nonpos h3) (Int.neg_lt_neg h2)
theorem rest_bd {c e : Int} (h : (0 < c ∧ 0 ≤ e ∧ e < c) ∨ (c < 0 ∧ c < e ∧ e ≤ 0)) (h1 : -32768 ≤ c) (h2 : c ≤ 32768) : -32768 ≤ e ∧ e ≤ 32768 := by
  rcases h with ⟨q1, q2, q3⟩ | ⟨q1, q2, q3⟩
  · exact ⟨Int.le_trans (by decide) q2, Int.le_trans (Int.le_of_lt q3) h2⟩
  · exact ⟨Int.le_trans h1 (Int.le_of_lt q2), Int.le_trans q3 (by decide)⟩
theorem rest_of {a b c d : Int} (hc : c ≠ 0) : (0 < c ∧ 0 ≤ bq a b c d * c - a ∧ bq a b c d * c - a < c) ∨ (c < 0 ∧ c < bq a b c d * c - a ∧ bq a b c d * c - a ≤ 0) := by
  have hb : bq a b c d = -(Int.fdiv (-a) c) := if_neg hc
  rw [hb, fm_eq]
  rcases Int.lt_or_gt_of_ne hc with h1 | h1
  · exact .inr ⟨h1, fmod_neg h1⟩
  · exact .inl ⟨h1, fmod_pos h1⟩
theorem one_back {b : Int} : b * 1 * 1 - b = 0 := by rw [Int.mul_one, Int.mul_one, Int.sub_self]
theorem neg_back {b : Int} : b * -1 * -1 - b = 0 := by rw [Int.mul_assoc, show (-1 : Int) * -1 = 1 from rfl, Int.mul_one, Int.sub_self]
theorem mu_less {a b c d : Int} (hdet : a * d - b * c = 1) (hne : ¬ (a = 1 ∧ b = 0 ∧ c = 0 ∧ d = 1)) : mu c d (bq a b c d * c - a) (bq a b c d * d - b) < mu a b c d := by
  by_cases hc : c = 0
  · subst hc
    have had : a * d = 1 := by simpa using hdet
    have hb : bq a b 0 d = b * d := if_pos rfl
    rw [hb]
    rcases unit_cases had with ⟨rfl, rfl⟩ | ⟨rfl, rfl⟩
    · have hb0 : b ≠ 0 := fun e => hne ⟨rfl, e, rfl, rfl⟩
      simp only [one_back, Int.mul_zero]
      simp [mu, hb0]
    · simp only [neg_back, Int.mul_zero]
      simp [mu]
  · by_cases hsp : a = 0 ∧ d = 0
    · obtain ⟨rfl, rfl⟩ := hsp
      have h2 : b * -c = 1 := by rw [Int.mul_neg, ← hdet, Int.zero_mul, Int.zero_sub]
      have hb0 : bq 0 b c 0 = 0 := by simp [bq, hc]
      rw [hb0]
      rcases unit_cases h2 with ⟨rfl, h3⟩ | ⟨rfl, h3⟩
      · obtain rfl : c = -1 := by rw [← Int.neg_neg c, h3]
        decide
      · obtain rfl : c = 1 := by rw [← Int.neg_neg c, h3]; rfl
        decide
    · have hmu : mu a b c d = c.natAbs + 4 := by rw [mu, if_neg hc, if_neg hsp]
      rw [hmu]
      exact Nat.lt_of_le_of_lt (mu_le _ _ _ _) (Nat.add_lt_add_right (abs_less (rest_of hc)) 4)
/-- one step of the walk back -/
theorem back_step {row : List Int} {a b c d : Int} (h : BackInv row a b c d) (hne : ¬ (a = 1 ∧ b = 0 ∧ c = 0 ∧ d = 1)) :
    BackInv (row ++ [bq a b c d]) c d (bq a b c d * c - a) (bq a b c d * d - b) ∧ mu c d (bq a b c d * c - a) (bq a b c d * d - b) < mu a b c d := by
  have hdet := det_walk row
  have hat' := walkS_snoc row (bq a b c d)
  have hs := h.small row.length (Nat.le_refl _)
  rw [List.take_length] at hs
  rw [h.at_] at hdet hat' hs
  simp only [det4, stp, Small] at hdet hat' hs
  have hdet' := det_walk (row ++ [bq a b c d])
  rw [hat'] at hdet'
  simp only [det4] at hdet'
  obtain ⟨s1, s2, s3, s4, s5, s6, s7, s8⟩ := hs
  have hmu := mu_less hdet hne
  have key : (-32768 ≤ bq a b c d * c - a ∧ bq a b c d * c - a ≤ 32768) ∧ -32768 ≤ bq a b c d * d - b ∧ bq a b c d * d - b ≤ 32768 := by
    by_cases hc : c = 0
    · subst hc
      have had : a * d = 1 := by simpa using hdet
      have hb : bq a b 0 d = b * d := if_pos rfl
      rw [hb]
      rcases unit_cases had with ⟨rfl, rfl⟩ | ⟨rfl, rfl⟩
      · simp only [one_back, Int.mul_zero]; decide
      · simp only [neg_back, Int.mul_zero]; decide
    · exact ⟨rest_bd (rest_of hc) s5 s6, next_small hdet' hc (rest_of hc) ⟨s7, s8⟩⟩
  refine ⟨⟨hat', ?_, ?_, ?_⟩, hmu⟩
  · refine small_snoc h.small ?_
    rw [hat']
    exact ⟨s5, s6, s7, s8, key.1.1, key.1.2, key.2⟩
  · rw [List.length_append]; exact Nat.le_trans h.pos (Nat.le_add_right _ _)
  · rw [List.length_append, List.length_singleton, Nat.add_assoc, Nat.add_comm 1]
    exact Nat.le_trans (Nat.add_le_add_left hmu _) h.short
theorem back_done {row : List Int} (h : BackInv row 1 0 0 1) : Ring row := ⟨h.at_, h.small, h.pos, by have := h.short; lia⟩
/-- holds while drawing -/
structure Draw (pre : List Int) (a b c d : Int) : Prop where
  at_ : walkS pre = (a, b, c, d)
  small : ∀ k, k ≤ pre.length → Small (walkS (pre.take k))
  ha : -(8 ^ pre.length : Int) ≤ a ∧ a ≤ 8 ^ pre.length
  hb : -(8 ^ pre.length : Int) ≤ b ∧ b ≤ 8 ^ pre.length
  hc : -(8 ^ pre.length : Int) ≤ c ∧ c ≤ 8 ^ pre.length
  hd : -(8 ^ pre.length : Int) ≤ d ∧ d ≤ 8 ^ pre.length
theorem draw_start : Draw [] 1 0 0 1 := ⟨rfl, fun k hk => by
  have : k = 0 := by simpa using hk
  subst this; simp [walkS, Small], by decide, by decide, by decide, by decide⟩
theorem draw_one {q x y B : Int} (hq : -4 ≤ q ∧ q ≤ 7) (hx : -B ≤ x ∧ x ≤ B) (hy : -B ≤ y ∧ y ≤ B) : -(B * 8) ≤ q * x - y ∧ q * x - y ≤ B * 8 := by
  have hB : 0 ≤ B := by lia
  have h1 := Int.mul_nonneg (show 0 ≤ 7 - q by lia) (show 0 ≤ B + x by lia)
  have h2 := Int.mul_nonneg (show 0 ≤ 7 + q by lia) (show 0 ≤ B - x by lia)
  have h3 := Int.mul_nonneg (show 0 ≤ 7 - q by lia) (show 0 ≤ B - x by lia)
  have h4 := Int.mul_nonneg (show 0 ≤ 7 + q by lia) (show 0 ≤ B + x by lia)
  simp only [Int.add_mul, Int.sub_mul, Int.mul_add, Int.mul_sub] at h1 h2 h3 h4
  lia
theorem widen {B x : Int} (h : -B ≤ x ∧ x ≤ B) : -(B * 8) ≤ x ∧ x ≤ B * 8 := by lia
theorem within {B x : Int} (hB : B ≤ 4096) (h : -(B * 8) ≤ x ∧ x ≤ B * 8) : -32768 ≤ x ∧ x ≤ 32768 := by lia
theorem draw_step {pre : List Int} {a b c d q : Int} (h : Draw pre a b c d) (hq : -4 ≤ q ∧ q ≤ 7) (hl : pre.length < 5) : Draw (pre ++ [q]) c d (q * c - a) (q * d - b) := by
  have hat' := walkS_snoc pre q
  rw [h.at_] at hat'
  simp only [stp] at hat'
  have h1 := draw_one hq h.hc h.ha
  have h2 := draw_one hq h.hd h.hb
  have hp : (8 : Int) ^ (pre ++ [q]).length = 8 ^ pre.length * 8 := by rw [List.length_append]; simp [Int.pow_succ]
  have hle : (8 : Int) ^ pre.length ≤ 4096 := by
    have : pre.length = 0 ∨ pre.length = 1 ∨ pre.length = 2 ∨ pre.length = 3 ∨ pre.length = 4 := by lia
    rcases this with h | h | h | h | h <;> rw [h] <;> decide
  have h3 := widen h.hc
  have h4 := widen h.hd
  refine ⟨hat', small_snoc h.small ?_, by rw [hp]; exact h3, by rw [hp]; exact h4, by rw [hp]; exact h1, by rw [hp]; exact h2⟩
  rw [hat']
  have w1 := within hle h1
  have w2 := within hle h2
  have w3 := within hle h3
  have w4 := within hle h4
  exact ⟨w3.1, w3.2, w4.1, w4.2, w1.1, w1.2, w2⟩
theorem draw_bound {pre : List Int} {a b c d : Int} (h : Draw pre a b c d) (hl : pre.length ≤ 5) : (-32768 ≤ a ∧ a ≤ 32768) ∧ (-32768 ≤ b ∧ b ≤ 32768) ∧ (-32768 ≤ c ∧ c ≤ 32768) ∧ (-32768 ≤ d ∧ d ≤ 32768) := by
  have := h.small pre.length (Nat.le_refl _)
  rw [List.take_length, h.at_] at this
  obtain ⟨s1, s2, s3, s4, s5, s6, s7⟩ := this
  exact ⟨⟨s1, s2⟩, ⟨s3, s4⟩, ⟨s5, s6⟩, s7⟩
theorem draw_back {pre : List Int} {a b c d : Int} (h : Draw pre a b c d) (hl : pre.length = 5) : BackInv pre a b c d := by
  refine ⟨h.at_, h.small, by lia, ?_⟩
  have hb := draw_bound h (by lia)
  have hc : c.natAbs ≤ 32768 := by have := hb.2.2.1; clear hb; lia
  rw [hl]
  exact Nat.le_trans (Nat.add_le_add_left (Nat.le_trans (mu_le a b c d) (Nat.add_le_add_right hc 4)) 5) (by decide)
end Mine
namespace Mine
noncomputable abbrev DrawP (pre : List Int) (a b c d : Int) : Prop := Draw pre a b c d ∧ pre.length ≤ 5 ∧ -32768 ≤ c ∧ c ≤ 32768 ∧ -32768 ≤ d ∧ d ≤ 32768
theorem drawP_start : DrawP [] 1 0 0 1 := ⟨draw_start, by decide, by decide, by decide, by decide, by decide⟩
theorem drawP_step {ns pre post : List Int} {a b c d q : Int} (hn : ns.length = 5) (hq : ∀ q ∈ ns, -4 ≤ q ∧ q ≤ 7) (he : ns = pre ++ q :: post) (h : Draw pre a b c d) : DrawP (pre ++ [q]) c d (q * c - a) (q * d - b) := by
  have hl : pre.length < 5 := by rw [he, List.length_append, List.length_cons] at hn; omega
  have h1 := draw_step h (hq q (by rw [he]; simp)) hl
  have h2 := draw_bound h1 (by rw [List.length_append]; simp; omega)
  exact ⟨h1, by rw [List.length_append]; exact hl, h2.2.2.1.1, h2.2.2.1.2, h2.2.2.2⟩
noncomputable abbrev BackP (row : List Int) (a b c d : Int) : Prop := BackInv row a b c d ∧ -32768 ≤ b ∧ b ≤ 32768 ∧ -32768 ≤ c ∧ c ≤ 32768 ∧ -32768 ≤ d ∧ d ≤ 32768 ∧ row.length ≤ 40000
theorem BackInv.P {row : List Int} {a b c d : Int} (h : BackInv row a b c d) : BackP row a b c d := by
  have hs := h.small row.length (Nat.le_refl _)
  rw [List.take_length, h.at_] at hs
  obtain ⟨s1, s2, s3, s4, s5, s6, s7⟩ := hs
  exact ⟨h, s3, s4, s5, s6, s7.1, s7.2, Nat.le_trans (Nat.le_trans (Nat.le_add_right _ _) h.short) (by decide)⟩
theorem backP_start {ns : List Int} {a b c d : Int} (hn : ns.length = 5) (h : Draw ns a b c d) : BackP ns a b c d := (draw_back h hn).P
theorem bq_zero {a b d : Int} : bq a b 0 d = b * d := by simp [bq]
theorem bq_ne {a b c d : Int} (h : c ≠ 0) : bq a b c d = -(Int.fdiv (-a) c) := by simp [bq, h]
theorem backP_zero {row : List Int} {a b c d : Int} (h : BackInv row a b c d) (hne : ¬ ([a, b, c, d] = [1, 0, 0, 1])) (hc : c = 0) : BackP (row ++ [b * d]) c d (b * d * c - a) (b * d * d - b) ∧ mu c d (b * d * c - a) (b * d * d - b) < mu a b c d := by
  have := back_step h (fun x => hne (by simp [x.1, x.2.1, x.2.2.1, x.2.2.2]))
  subst hc
  rw [bq_zero] at this
  exact ⟨this.1.P, this.2⟩
theorem backP_ne {row : List Int} {a b c d : Int} (h : BackInv row a b c d) (hne : ¬ ([a, b, c, d] = [1, 0, 0, 1])) (hc : c ≠ 0) : BackP (row ++ [-(Int.fdiv (-a) c)]) c d (-(Int.fdiv (-a) c) * c - a) (-(Int.fdiv (-a) c) * d - b) ∧ mu c d (-(Int.fdiv (-a) c) * c - a) (-(Int.fdiv (-a) c) * d - b) < mu a b c d := by
  have := back_step h (fun x => hne (by simp [x.1, x.2.1, x.2.2.1, x.2.2.2]))
  rw [bq_ne hc] at this
  exact ⟨this.1.P, this.2⟩
theorem backP_done {row : List Int} {a b c d : Int} (h : BackInv row a b c d) (he : [a, b, c, d] = [1, 0, 0, 1]) : Ring row := by
  simp at he
  obtain ⟨rfl, rfl, rfl, rfl⟩ := he
  exact back_done h
end Mine
end
section
namespace Mine
/-- the three parts of a point's colour -/
noncomputable def part3 (M : S4) (grey : Int) : List Int := [M.1 - (min3 M.1 M.2.1 0 - grey), M.2.1 - (min3 M.1 M.2.1 0 - grey), -(min3 M.1 M.2.1 0 - grey)]
noncomputable def partsFrom (grey : Int) : List Int → S4 → List Int
  | [], _ => []
  | q :: r, M => part3 M grey ++ partsFrom grey r (stp M q)
theorem partsFrom_snoc (grey q : Int) : ∀ (l : List Int) (M : S4), partsFrom grey (l ++ [q]) M = partsFrom grey l M ++ part3 (l.foldl stp M) grey
  | [], M => by simp [partsFrom]
  | x :: r, M => by simp only [List.cons_append, partsFrom, List.foldl_cons, partsFrom_snoc grey q r, List.append_assoc]
noncomputable def partsOf (grey : Int) (row : List Int) : List Int := partsFrom grey row (1, 0, 0, 1)
theorem partsOf_snoc (grey q : Int) (l : List Int) : partsOf grey (l ++ [q]) = partsOf grey l ++ part3 (walkS l) grey := partsFrom_snoc ..
theorem partsFrom_length (grey : Int) : ∀ (l : List Int) (M : S4), (partsFrom grey l M).length = 3 * l.length
  | [], _ => rfl
  | q :: r, M => by simp only [partsFrom, List.length_append, partsFrom_length grey r, List.length_cons]; simp [part3]; lia
theorem partsOf_length (grey : Int) (l : List Int) : (partsOf grey l).length = 3 * l.length := partsFrom_length ..
noncomputable abbrev PartsP (grey : Int) (pre : List Int) (a b c d : Int) (parts : List Int) : Prop := walkS pre = (a, b, c, d) ∧ parts = partsOf grey pre ∧ parts.length = 3 * pre.length ∧ -32768 ≤ c ∧ c ≤ 32768 ∧ -32768 ≤ d ∧ d ≤ 32768
theorem partsP_start (grey : Int) : PartsP grey [] 1 0 0 1 [] := ⟨rfl, rfl, rfl, by decide, by decide, by decide, by decide⟩
theorem partsP_step {grey : Int} {ns pre post : List Int} {a b c d q : Int} {parts : List Int} (hr : Ring ns) (he : ns = pre ++ q :: post) (h1 : walkS pre = (a, b, c, d)) (h2 : parts = partsOf grey pre) :
    PartsP grey (pre ++ [q]) c d (q * c - a) (q * d - b) (parts ++ [a - (min3 a b 0 - grey), b - (min3 a b 0 - grey), -(min3 a b 0 - grey)]) := by
  have e1 := walkS_snoc pre q
  rw [h1] at e1
  have hs := hr.small (pre.length + 1) (by rw [he]; simp)
  have e2 : ns.take (pre.length + 1) = pre ++ [q] := by rw [he, List.take_append]; simp [List.take_of_length_le]
  rw [e2, e1] at hs
  simp only [Small, stp] at hs
  have e3 := partsOf_snoc grey q pre
  rw [h1] at e3
  refine ⟨e1, ?_, ?_, by lia, by lia, by lia, by lia⟩
  · rw [e3, h2]; rfl
  · rw [h2, List.length_append, partsOf_length, List.length_append]; simp; lia
end Mine
end
section
namespace Mine
noncomputable abbrev ptS (row : List Int) (k : Nat) : S4 := walkS (row.take k)
/-- the colour of point k -/
noncomputable def colS (M : S4) (grey : Int) : Int × Int × Int := (M.1 - (min3 M.1 M.2.1 0 - grey), M.2.1 - (min3 M.1 M.2.1 0 - grey), -(min3 M.1 M.2.1 0 - grey))
theorem partsFrom_drop (grey : Int) : ∀ (l : List Int) (M : S4) (k : Nat), k < l.length → ∃ q r, (partsFrom grey l M).drop (3 * k) = part3 ((l.take k).foldl stp M) grey ++ partsFrom grey r (stp ((l.take k).foldl stp M) q)
  | [], _, k, h => by simp at h
  | q :: r, M, 0, _ => ⟨q, r, by simp [partsFrom]⟩
  | q :: r, M, k + 1, h => by
    obtain ⟨q', r', e⟩ := partsFrom_drop grey r (stp M q) k (by simpa using h)
    refine ⟨q', r', ?_⟩
    rw [List.take_succ_cons, List.foldl_cons, ← e]
    have : 3 * (k + 1) = (part3 M grey).length + 3 * k := by simp [part3]; lia
    rw [partsFrom, this, ← List.drop_drop, List.drop_left]
theorem parts_take3 (grey : Int) {row : List Int} {k : Nat} (h : k < row.length) : ((partsOf grey row).drop (3 * k)).take 3 = [(colS (ptS row k) grey).1, (colS (ptS row k) grey).2.1, (colS (ptS row k) grey).2.2] := by
  obtain ⟨q, r, e⟩ := partsFrom_drop grey row (1, 0, 0, 1) k h
  rw [partsOf, e]; rfl
theorem parts_get (grey : Int) {row : List Int} {k : Nat} (h : k < row.length) :
    (partsOf grey row)[3 * k]? = some (colS (ptS row k) grey).1 ∧ (partsOf grey row)[3 * k + 1]? = some (colS (ptS row k) grey).2.1 ∧ (partsOf grey row)[3 * k + 2]? = some (colS (ptS row k) grey).2.2 := by
  obtain ⟨q, r, e⟩ := partsFrom_drop grey row (1, 0, 0, 1) k h
  refine ⟨?_, ?_, ?_⟩
  · rw [← Nat.add_zero (3 * k), ← List.getElem?_drop]; show (List.drop (3 * k) (partsFrom grey row (1, 0, 0, 1)))[0]? = _; rw [e]; rfl
  · rw [← List.getElem?_drop]; show (List.drop (3 * k) (partsFrom grey row (1, 0, 0, 1)))[1]? = _; rw [e]; rfl
  · rw [← List.getElem?_drop]; show (List.drop (3 * k) (partsFrom grey row (1, 0, 0, 1)))[2]? = _; rw [e]; rfl
theorem min3_le (a b c : Int) : min3 a b c ≤ a ∧ min3 a b c ≤ b ∧ min3 a b c ≤ c ∧ (min3 a b c = a ∨ min3 a b c = b ∨ min3 a b c = c) := by
  unfold min3; lia
theorem max3_le (a b c : Int) : a ≤ max3 a b c ∧ b ≤ max3 a b c ∧ c ≤ max3 a b c ∧ (max3 a b c = a ∨ max3 a b c = b ∨ max3 a b c = c) := by
  unfold max3; lia
theorem pt_ne {row : List Int} {k : Nat} : ¬ ((ptS row k).1 = 0 ∧ (ptS row k).2.1 = 0) := by
  rintro ⟨h1, h2⟩
  have h := det_walk (row.take k)
  simp only [det4] at h
  rw [h1, h2] at h
  simp at h
/-- the colours' facts -/
structure ColOk (c : Int × Int × Int) : Prop where
  r : 0 ≤ c.1 ∧ c.1 < 1048576
  g : 0 ≤ c.2.1 ∧ c.2.1 < 1048576
  b : 0 ≤ c.2.2 ∧ c.2.2 < 1048576
  ne : min3 c.1 c.2.1 c.2.2 < max3 c.1 c.2.1 c.2.2
  lo : 0 ≤ min3 c.1 c.2.1 c.2.2
  hi : max3 c.1 c.2.1 c.2.2 < 1048576
theorem min3_lo {a b c : Int} (h1 : 0 ≤ a) (h2 : 0 ≤ b) (h3 : 0 ≤ c) : 0 ≤ min3 a b c := by
  rcases (min3_le a b c).2.2.2 with e | e | e <;> rw [e] <;> assumption
theorem max3_hi {a b c K : Int} (h1 : a < K) (h2 : b < K) (h3 : c < K) : max3 a b c < K := by
  rcases (max3_le a b c).2.2.2 with e | e | e <;> rw [e] <;> assumption
theorem side_bd {x m l grey : Int} (h : m ≤ x) (hx : x ≤ 32768) (mb : -32768 ≤ m) (hg : 0 ≤ grey ∧ grey < 100) (hl : l = m - grey) : 0 ≤ x - l ∧ x - l < 1048576 := by lia
theorem zero_of {x l : Int} (a1 : x - l ≤ -l) (a2 : -l ≤ x - l) : x = 0 := by lia
theorem col_ok' {x y grey l : Int} (hx : -32768 ≤ x ∧ x ≤ 32768) (hy : -32768 ≤ y ∧ y ≤ 32768) (hne : ¬ (x = 0 ∧ y = 0)) (hg : 0 ≤ grey ∧ grey < 100) (hl : l = min3 x y 0 - grey) : ColOk (x - l, y - l, -l) := by
  obtain ⟨m1, m2, m3, m4⟩ := min3_le x y 0
  have mb : -32768 ≤ min3 x y 0 := by
    rcases m4 with e | e | e <;> rw [e]
    · exact hx.1
    · exact hy.1
    · decide
  have r := side_bd m1 hx.2 mb hg hl
  have g := side_bd m2 hy.2 mb hg hl
  have b := side_bd m3 (by decide) mb hg hl
  rw [Int.zero_sub] at b
  have h1 := min3_le (x - l) (y - l) (-l)
  have h2 := max3_le (x - l) (y - l) (-l)
  refine ⟨r, g, b, Int.not_le.mp fun q => hne ⟨?_, ?_⟩, min3_lo r.1 g.1 b.1, max3_hi r.2 g.2 b.2⟩
  · exact zero_of (Int.le_trans h2.1 (Int.le_trans q h1.2.2.1)) (Int.le_trans h2.2.2.1 (Int.le_trans q h1.1))
  · exact zero_of (Int.le_trans h2.2.1 (Int.le_trans q h1.2.2.1)) (Int.le_trans h2.2.2.1 (Int.le_trans q h1.2.1))
theorem col_ok {grey : Int} {row : List Int} (hR : Ring row) (hg : 0 ≤ grey ∧ grey < 100) {k : Nat} (hk : k < row.length) : ColOk (colS (ptS row k) grey) := by
  have hs := hR.small k (by lia)
  simp only [Small] at hs
  exact col_ok' ⟨hs.1, hs.2.1⟩ ⟨hs.2.2.1, hs.2.2.2.1⟩ pt_ne hg rfl
theorem parts_small {grey : Int} {row : List Int} (hR : Ring row) (hg : 0 ≤ grey ∧ grey < 100) : ∀ p ∈ partsOf grey row, 0 ≤ p ∧ p < 1048576 := by
  intro p hp
  obtain ⟨i, hget⟩ := List.mem_iff_getElem?.mp hp
  have hi : i < 3 * row.length := by
    rw [← partsOf_length grey row]
    exact Nat.lt_of_not_le fun h => by rw [List.getElem?_eq_none h] at hget; cases hget
  have hk : i / 3 < row.length := by lia
  obtain ⟨e0, e1, e2⟩ := parts_get grey hk
  have hc := col_ok hR hg hk
  have h3 : i = 3 * (i / 3) ∨ i = 3 * (i / 3) + 1 ∨ i = 3 * (i / 3) + 2 := by lia
  rcases h3 with q | q | q
  · rw [q, e0] at hget; rw [← Option.some.inj hget]; exact hc.r
  · rw [q, e1] at hget; rw [← Option.some.inj hget]; exact hc.g
  · rw [q, e2] at hget; rw [← Option.some.inj hget]; exact hc.b
end Mine
end
section
/-! floats as rationals: each step near the exact one -/
set_option Elab.async false
set_option maxHeartbeats 1000000
namespace Mine
open PySem PySem.Float64
theorem V_reach : ∀ (j q : Nat), q ≤ 2 ^ 53 → ∃ t, V t = q * 2 ^ j
  | 0, q, h => ⟨q, by have := V_at (k := 0) h (.inr rfl); simpa using this⟩
  | j + 1, q, h => by
    rcases Nat.lt_or_ge q (2 ^ 52) with h1 | h1
    · obtain ⟨t, e⟩ := V_reach j (2 * q) (by lia)
      exact ⟨t, by rw [e, Nat.pow_succ]; ac_rfl⟩
    · exact ⟨(j + 1) * 2 ^ 52 + q, V_at h (.inl h1)⟩
theorem rnd {r : UInt64} {neg : Bool} {W D k : Nat} (hk : k ≤ 60) (hD : 0 < D) (hW : W ≤ D * 2 ^ (1074 + k)) (h : Right r neg W D) :
    isFinite r = true ∧ val r * D - sgn neg W ≤ ((D * 2 ^ (1021 + k) : Nat) : Int) ∧ -((D * 2 ^ (1021 + k) : Nat) : Int) ≤ val r * D - sgn neg W := by
  obtain ⟨t, rfl, h1, h2, h3⟩ := h
  have hlt : t < infMag := by
    refine Nat.lt_of_le_of_ne h1 fun e => ?_
    have h4 := h2.mp e
    have h5 : D * 2 ^ (1074 + k) ≤ D * 2 ^ 1134 := Nat.mul_le_mul_left _ (Nat.pow_le_pow_right (by decide) (by lia))
    have h6 : D * (2 * 2 ^ 1134) < D * ((2 ^ 54 - 1) * 2 ^ 2045) := Nat.mul_lt_mul_of_pos_left (by decide +kernel) hD
    have h7 : 2 * (D * 2 ^ 1134) = D * (2 * 2 ^ 1134) := Nat.mul_left_comm ..
    have h8 := Nat.mul_le_mul_left 2 (Nat.le_trans hW h5)
    rw [h7] at h8
    have h9 := Nat.le_trans h4 h8
    generalize D * (2 * 2 ^ 1134) = A at h6 h9
    generalize D * ((2 ^ 54 - 1) * 2 ^ 2045) = B at h6 h9
    lia
  obtain ⟨m, e, hd, -⟩ := decode_pack neg hlt
  refine ⟨by unfold isFinite; rw [hd], ?_⟩
  rw [val_pack neg hlt]
  have hp : 0 < D * 2 ^ (1021 + k) := Nat.mul_pos hD (Nat.two_pow_pos _)
  have hq : W / (D * 2 ^ (1021 + k)) ≤ 2 ^ 53 := by
    refine Nat.div_le_of_le_mul ?_
    have e : D * 2 ^ (1021 + k) * 2 ^ 53 = D * 2 ^ (1074 + k) := by
      rw [Nat.mul_assoc, ← Nat.pow_add]; congr 2; lia
    rw [e]; exact hW
  obtain ⟨t', ht⟩ := V_reach (1021 + k) _ hq
  have h4 := (h3 hlt t').1
  have h5 : D * V t' = D * 2 ^ (1021 + k) * (W / (D * 2 ^ (1021 + k))) := by
    rw [ht]
    generalize 2 ^ (1021 + k) = P
    rw [Nat.mul_comm (W / _) P, ← Nat.mul_assoc]
  have h6 := Nat.div_add_mod W (D * 2 ^ (1021 + k))
  have h7 := Nat.mod_lt W hp
  rw [h5] at h4
  have h8 : sgn neg (V t) * (D : Int) = sgn neg (D * V t) := by rw [← sgn_mul, Nat.mul_comm]
  rw [h8]
  generalize D * V t = A at *
  generalize D * 2 ^ (1021 + k) * (W / (D * 2 ^ (1021 + k))) = B at *
  generalize D * 2 ^ (1021 + k) = C at *
  unfold Float64.dist at h4
  unfold sgn
  cases neg
  · simp only [Bool.false_eq_true, if_false]; lia
  · simp only [if_true]; lia
theorem KK_ex : ∃ K : Int, K = 2 ^ 1074 ∧ 0 < K := ⟨_, rfl, by decide +kernel⟩
/-- 2 ^ 1074, kept closed -/
noncomputable def KK : Int := Classical.choose KK_ex
theorem KK_eq : KK = 2 ^ 1074 := (Classical.choose_spec KK_ex).1
theorem KK_pos : 0 < KK := (Classical.choose_spec KK_ex).2
theorem K1_ex : ∃ K : Int, K = 2 ^ 1021 ∧ KK = 2 ^ 53 * K := ⟨_, rfl, by rw [KK_eq]; decide +kernel⟩
/-- 2 ^ 1021, kept closed -/
noncomputable def K1 : Int := Classical.choose K1_ex
theorem K1_eq : K1 = 2 ^ 1021 := (Classical.choose_spec K1_ex).1
theorem KK_K1 : KK = 2 ^ 53 * K1 := (Classical.choose_spec K1_ex).2
noncomputable def rv (x : UInt64) : Rat := (val x : Rat) / (KK : Rat)
theorem KKr_pos : (0 : Rat) < (KK : Rat) := by exact_mod_cast KK_pos
theorem rv_mul (x : UInt64) : rv x * (KK : Rat) = (val x : Rat) := by
  unfold rv
  have := KKr_pos
  grind
/-- near: the float r is finite and within e of q -/
structure Nr (r : UInt64) (q e : Rat) : Prop where
  fin : isFinite r = true
  hi : rv r - q ≤ e
  lo : -e ≤ rv r - q
theorem i1_eq (a b c q : Rat) : a * b * c - q * (c * b) = (a - q) * (c * b) := by grind
theorem i2_eq (a b c : Rat) : a * (b * c) = a / 2 ^ 53 * (b * (2 ^ 53 * c)) := by grind
theorem rnd_rat {r : UInt64} {neg : Bool} {W D : Nat} (k : Nat) (hk : k ≤ 60) (hD : 0 < D) (h : Right r neg W D) (q : Rat) (hq : q * ((D : Int) * (KK : Rat)) = ((sgn neg W : Int) : Rat)) (h1 : q ≤ 2 ^ k) (h2 : -(2 ^ k) ≤ q) :
    Nr r q (2 ^ k / 2 ^ 53) := by
  have hDr : (0 : Rat) < ((D : Int) : Rat) := by exact_mod_cast hD
  have hK := KKr_pos
  have hDK : (0 : Rat) < ((D : Int) : Rat) * (KK : Rat) := Rat.mul_pos hDr hK
  have b1 := Rat.mul_le_mul_of_nonneg_right h1 (Rat.le_of_lt hDK)
  have b2 := Rat.mul_le_mul_of_nonneg_right h2 (Rat.le_of_lt hDK)
  rw [hq] at b1 b2
  have c1 : sgn neg W ≤ (2 : Int) ^ k * ((D : Int) * KK) := by
    have : ((sgn neg W : Int) : Rat) ≤ (((2 : Int) ^ k * ((D : Int) * KK) : Int) : Rat) := by rw [Rat.intCast_mul, Rat.intCast_mul, Rat.intCast_pow]; exact b1
    exact Rat.intCast_le_intCast.mp this
  have c2 : -((2 : Int) ^ k * ((D : Int) * KK)) ≤ sgn neg W := by
    have : ((-((2 : Int) ^ k * ((D : Int) * KK)) : Int) : Rat) ≤ ((sgn neg W : Int) : Rat) := by rw [Rat.intCast_neg, Rat.intCast_mul, Rat.intCast_mul, Rat.intCast_pow, ← Rat.neg_mul]; exact b2
    exact Rat.intCast_le_intCast.mp this
  have hW : W ≤ D * 2 ^ (1074 + k) := by
    have e : ((D * 2 ^ (1074 + k) : Nat) : Int) = 2 ^ k * ((D : Int) * KK) := by
      rw [KK_eq, Nat.pow_add, Int.natCast_mul, Int.natCast_mul, Int.natCast_pow, Int.natCast_pow]
      show (D : Int) * ((2 : Int) ^ 1074 * (2 : Int) ^ k) = _
      generalize (2 : Int) ^ 1074 = K
      rw [Int.mul_comm K, ← Int.mul_assoc, ← Int.mul_assoc, Int.mul_comm (D : Int)]
    have : (W : Int) ≤ ((D * 2 ^ (1074 + k) : Nat) : Int) := by
      rw [e]
      generalize (2 : Int) ^ k * ((D : Int) * KK) = Z at c1 c2 ⊢
      unfold sgn at c1 c2
      cases neg <;> simp at c1 c2 <;> omega
    exact Int.ofNat_le.mp this
  obtain ⟨f, d1, d2⟩ := rnd hk hD hW h
  have e2 : ((D * 2 ^ (1021 + k) : Nat) : Int) = 2 ^ k * ((D : Int) * K1) := by
    rw [K1_eq, Nat.pow_add, Int.natCast_mul, Int.natCast_mul, Int.natCast_pow, Int.natCast_pow]
    show (D : Int) * ((2 : Int) ^ 1021 * (2 : Int) ^ k) = _
    generalize (2 : Int) ^ 1021 = K
    rw [Int.mul_comm K, ← Int.mul_assoc, ← Int.mul_assoc, Int.mul_comm (D : Int)]
  rw [e2] at d1 d2
  have g1 : (val r : Rat) * ((D : Int) : Rat) - ((sgn neg W : Int) : Rat) ≤ 2 ^ k * (((D : Int) : Rat) * (K1 : Rat)) := by
    have := Rat.intCast_le_intCast.mpr d1
    rw [Rat.intCast_sub, Rat.intCast_mul, Rat.intCast_mul, Rat.intCast_mul, Rat.intCast_pow] at this
    exact this
  have g2 : -(2 ^ k * (((D : Int) : Rat) * (K1 : Rat))) ≤ (val r : Rat) * ((D : Int) : Rat) - ((sgn neg W : Int) : Rat) := by
    have := Rat.intCast_le_intCast.mpr d2
    rw [Rat.intCast_sub, Rat.intCast_neg, Rat.intCast_mul, Rat.intCast_mul, Rat.intCast_mul, Rat.intCast_pow] at this
    exact this
  have hKK : (KK : Rat) = 2 ^ 53 * (K1 : Rat) := by rw [KK_K1, Rat.intCast_mul, Rat.intCast_pow]; rfl
  rw [← hq, ← rv_mul] at g1 g2
  have i1 : rv r * (KK : Rat) * ((D : Int) : Rat) - q * (((D : Int) : Rat) * (KK : Rat)) = (rv r - q) * (((D : Int) : Rat) * (KK : Rat)) := i1_eq ..
  have i2 : (2 : Rat) ^ k * (((D : Int) : Rat) * (K1 : Rat)) = (2 ^ k / 2 ^ 53) * (((D : Int) : Rat) * (KK : Rat)) := by rw [hKK]; exact i2_eq ..
  rw [i1, i2] at g1 g2
  rw [← Rat.neg_mul] at g2
  exact ⟨f, Rat.le_of_mul_le_mul_right g1 hDK, Rat.le_of_mul_le_mul_right g2 hDK⟩
end Mine
end
section
/-! the operations of floats as rationals -/
set_option Elab.async false
set_option maxHeartbeats 1000000
namespace Mine
open PySem PySem.Float64
theorem dec {x : UInt64} (h : isFinite x = true) : ∃ a m e, decode x = .fin a m e := by
  unfold isFinite at h
  split at h
  · rename_i a m e hd; exact ⟨a, m, e, hd⟩
  · cases h
theorem fin_of {x : UInt64} {a : Bool} {m : Nat} {e : Int} (h : decode x = .fin a m e) : isFinite x = true := by unfold isFinite; rw [h]
theorem sgn_dec (s : Int) : sgn (decide (s < 0)) s.natAbs = s := by
  unfold sgn
  by_cases h : s < 0 <;> simp [h] <;> omega
theorem val_sgn {x : UInt64} {a : Bool} {m : Nat} {e : Int} (h : decode x = .fin a m e) : sgn a (val x).natAbs = val x := by rw [val_natAbs h, val_eq h]
theorem sgn_xor (a b : Bool) (m n : Nat) : sgn (a != b) (m * n) = sgn a m * sgn b n := by
  unfold sgn
  cases a <;> cases b <;> simp [Int.neg_mul, Int.mul_neg]
theorem K_nat : (((2 ^ 1074 : Nat) : Int)) = KK := by rw [KK_eq, Int.natCast_pow]; rfl
theorem rv_zero_of {x : UInt64} (h : val x = 0) : rv x = 0 := by unfold rv; rw [h]; simp [Rat.div_def]
theorem val_zero (b : Bool) : val (zero b) = 0 := by cases b <;> decide +kernel
theorem fin_zero (b : Bool) : isFinite (zero b) = true := by cases b <;> decide +kernel
theorem Nr.of_eq {r : UInt64} {q e : Rat} (f : isFinite r = true) (h : rv r = q) (he : 0 ≤ e) : Nr r q e := ⟨f, by grind, by grind⟩
theorem eps_nonneg (k : Nat) : (0 : Rat) ≤ 2 ^ k / 2 ^ 53 := by
  have h1 : (0 : Rat) ≤ 2 ^ k := Rat.le_of_lt (Rat.pow_pos (by decide))
  have h2 : (0 : Rat) ≤ 2 ^ k * (1 / 2 ^ 53) := Rat.mul_nonneg h1 (by decide +kernel)
  grind
theorem add_nr {x y : UInt64} (k : Nat) (hk : k ≤ 60) (fx : isFinite x = true) (fy : isFinite y = true) (h1 : rv x + rv y ≤ 2 ^ k) (h2 : -(2 ^ k) ≤ rv x + rv y) : Nr (add x y) (rv x + rv y) (2 ^ k / 2 ^ 53) := by
  obtain ⟨a, m, e, hx⟩ := dec fx
  obtain ⟨b, n, f, hy⟩ := dec fy
  obtain ⟨z1, z2⟩ := add_right hx hy
  have hs : (rv x + rv y) * (KK : Rat) = ((val x + val y : Int) : Rat) := by rw [Rat.intCast_add, ← rv_mul, ← rv_mul]; grind
  by_cases h : val x + val y = 0
  · rw [z1 h]
    rw [h] at hs
    have hK := KKr_pos
    refine Nr.of_eq (fin_zero _) ?_ (eps_nonneg k)
    rw [rv_zero_of (val_zero _)]
    have h3 : (rv x + rv y) * (KK : Rat) = 0 := hs
    rcases Rat.mul_eq_zero.mp h3 with h4 | h4
    · exact h4.symm
    · rw [h4] at hK; exact absurd hK (by decide)
  · refine rnd_rat k hk (by decide) (z2 h) _ ?_ h1 h2
    rw [sgn_dec, ← hs]
    show (rv x + rv y) * (((1 : Int) : Rat) * (KK : Rat)) = _
    grind
theorem sub_nr {x y : UInt64} (k : Nat) (hk : k ≤ 60) (fx : isFinite x = true) (fy : isFinite y = true) (h1 : rv x - rv y ≤ 2 ^ k) (h2 : -(2 ^ k) ≤ rv x - rv y) : Nr (sub x y) (rv x - rv y) (2 ^ k / 2 ^ 53) := by
  obtain ⟨b, n, f, hy⟩ := dec fy
  have e : rv (neg y) = -rv y := by unfold rv; rw [neg_val hy, Rat.intCast_neg]; grind
  have := add_nr (x := x) (y := neg y) k hk fx (fin_of (neg_decode hy)) (by grind) (by grind)
  rw [e] at this
  have e2 : rv x + -rv y = rv x - rv y := by grind
  rw [e2] at this
  unfold Float64.sub
  exact this
theorem sub_self {x : UInt64} (fx : isFinite x = true) : isFinite (sub x x) = true ∧ rv (sub x x) = 0 := by
  obtain ⟨a, m, e, hx⟩ := dec fx
  have := (sub_right hx hx).1 (by lia)
  rw [this]
  exact ⟨fin_zero _, rv_zero_of (val_zero _)⟩
theorem mul_alg (p q K : Rat) : p * q * (K * K) = p * K * (q * K) := by grind
theorem mul_nr {x y : UInt64} (k : Nat) (hk : k ≤ 60) (fx : isFinite x = true) (fy : isFinite y = true) (h1 : rv x * rv y ≤ 2 ^ k) (h2 : -(2 ^ k) ≤ rv x * rv y) : Nr (mul x y) (rv x * rv y) (2 ^ k / 2 ^ 53) := by
  obtain ⟨a, m, e, hx⟩ := dec fx
  obtain ⟨b, n, f, hy⟩ := dec fy
  refine rnd_rat k hk (Nat.two_pow_pos _) (mul_right hx hy) _ ?_ h1 h2
  rw [K_nat, sgn_xor, val_sgn hx, val_sgn hy, Rat.intCast_mul, ← rv_mul, ← rv_mul, mul_alg]
theorem div_alg (p q K : Rat) (hq : q ≠ 0) : p / q * (q * K * K) = p * K * K := by grind
theorem div_nr {x y : UInt64} (k : Nat) (hk : k ≤ 60) (fx : isFinite x = true) (fy : isFinite y = true) (hy0 : 0 < rv y) (h1 : rv x / rv y ≤ 2 ^ k) (h2 : -(2 ^ k) ≤ rv x / rv y) : Nr (div x y) (rv x / rv y) (2 ^ k / 2 ^ 53) := by
  obtain ⟨a, m, e, hx⟩ := dec fx
  obtain ⟨b, n, f, hy⟩ := dec fy
  have hK := KKr_pos
  have hv : 0 < val y := by
    have h3 : (0 : Rat) < (val y : Rat) := by rw [← rv_mul]; exact Rat.mul_pos hy0 hK
    exact Rat.intCast_lt_intCast.mp h3
  have hn : n ≠ 0 := fun h => by
    have := val_natAbs hy
    rw [h, Nat.zero_mul] at this
    lia
  have hb : b = false := by
    have := val_sgn hy
    cases b with
    | false => rfl
    | true => unfold sgn at this; simp at this; lia
  subst hb
  refine rnd_rat k hk (by lia) (div_right hx hy hn) _ ?_ h1 h2
  have e1 : (((val y).natAbs : Nat) : Int) = val y := by lia
  have e2 : (a != false) = a := by cases a <;> rfl
  rw [e1, e2, sgn_mul, val_sgn hx, K_nat, Rat.intCast_mul, ← rv_mul, ← rv_mul]
  have h3 : rv y ≠ 0 := fun h => by rw [h] at hy0; exact absurd hy0 (by decide)
  exact div_alg _ _ _ h3
theorem ofInt_nr (i : Int) (k : Nat) (hk : k ≤ 60) (h1 : (i : Rat) ≤ 2 ^ k) (h2 : -(2 ^ k) ≤ (i : Rat)) : Nr (ofInt i) (i : Rat) (2 ^ k / 2 ^ 53) := by
  refine rnd_rat k hk (by decide) (ofInt_right i) _ ?_ h1 h2
  rw [sgn_mul, sgn_dec, K_nat, Rat.intCast_mul]
  show (i : Rat) * (((1 : Int) : Rat) * (KK : Rat)) = _
  grind
theorem frac_alg (a b K : Rat) (hb : b ≠ 0) : a / b * (b * K) = a * K := by grind
theorem ofFrac_nr (a b : Nat) (hb : 0 < b) (k : Nat) (hk : k ≤ 60) (h1 : ((a : Int) : Rat) / ((b : Int) : Rat) ≤ 2 ^ k) (h2 : -(2 ^ k) ≤ ((a : Int) : Rat) / ((b : Int) : Rat)) : Nr (ofFrac false a b) (((a : Int) : Rat) / ((b : Int) : Rat)) (2 ^ k / 2 ^ 53) := by
  refine rnd_rat (W := a * 2 ^ 1074) (D := b) k hk hb (ofFrac_right hb rfl hb) _ ?_ h1 h2
  rw [sgn_mul, K_nat, Rat.intCast_mul]
  have hbr : (0 : Rat) < ((b : Int) : Rat) := by exact_mod_cast hb
  have e : ((sgn false a : Int) : Rat) = ((a : Int) : Rat) := rfl
  rw [e]
  exact frac_alg _ _ _ fun h => by rw [h] at hbr; exact absurd hbr (by decide)
end Mine
end
section
/-! comparisons, the absolute value, the rest by one, the whole part -/
set_option Elab.async false
set_option maxHeartbeats 1000000
namespace Mine
open PySem PySem.Float64
theorem rv_lt {x y : UInt64} : rv x < rv y ↔ val x < val y := by
  have hK := KKr_pos
  rw [← Rat.intCast_lt_intCast, ← rv_mul, ← rv_mul]
  exact ⟨fun h => Rat.mul_lt_mul_of_pos_right h hK, fun h => Rat.lt_of_mul_lt_mul_right h (Rat.le_of_lt hK)⟩
theorem cmp_lt {x y : UInt64} (fx : isFinite x = true) (fy : isFinite y = true) : (cmp x y == some Ordering.lt) = decide (rv x < rv y) := by
  obtain ⟨a, m, e, hx⟩ := dec fx
  obtain ⟨b, n, f, hy⟩ := dec fy
  rw [cmp_right hx hy]
  by_cases h : val x < val y
  · rw [decide_eq_true (rv_lt.mpr h), Int.compare_eq_lt.mpr h]; rfl
  · rw [decide_eq_false (fun q => h (rv_lt.mp q))]
    rcases Int.lt_or_eq_of_le (Int.not_lt.mp h) with h1 | h1
    · rw [Int.compare_eq_gt.mpr h1]; rfl
    · rw [Int.compare_eq_eq.mpr h1.symm]; rfl
theorem rv_lt_int {x : UInt64} {i : Int} : (rv x < (i : Rat) ↔ val x < i * 2 ^ 1074) ∧ ((i : Rat) < rv x ↔ i * 2 ^ 1074 < val x) := by
  have hK := KKr_pos
  rw [← KK_eq, ← Rat.intCast_lt_intCast, ← Rat.intCast_lt_intCast, Rat.intCast_mul, ← rv_mul]
  exact ⟨⟨fun h => Rat.mul_lt_mul_of_pos_right h hK, fun h => Rat.lt_of_mul_lt_mul_right h (Rat.le_of_lt hK)⟩, ⟨fun h => Rat.mul_lt_mul_of_pos_right h hK, fun h => Rat.lt_of_mul_lt_mul_right h (Rat.le_of_lt hK)⟩⟩
theorem cmpInt_lt {x : UInt64} {i : Int} (fx : isFinite x = true) (h : rv x < (i : Rat)) : cmpInt x i = some Ordering.lt := by
  obtain ⟨a, m, e, hx⟩ := dec fx
  rw [cmpInt_right hx, Int.compare_eq_lt.mpr (rv_lt_int.1.mp h)]
theorem cmpInt_gt {x : UInt64} {i : Int} (fx : isFinite x = true) (h : (i : Rat) < rv x) : cmpInt x i = some Ordering.gt := by
  obtain ⟨a, m, e, hx⟩ := dec fx
  rw [cmpInt_right hx, Int.compare_eq_gt.mpr (rv_lt_int.2.mp h)]
theorem abs_decode {y : UInt64} {b : Bool} {k : Nat} {f : Int} (h : decode y = .fin b k f) : decode (Float64.abs y) = .fin false k f := by
  have hnan : isNaN y = false := by unfold isNaN; rw [h]
  have ha : (Float64.abs y).toNat = y.toNat % 2 ^ 63 := by
    unfold Float64.abs
    rw [if_neg (by simp [hnan]), pack_toNat false (Nat.mod_lt _ (by decide))]
    simp
  have h1 : (Float64.abs y).toNat / 2 ^ 63 = 0 := by rw [ha]; exact Nat.div_eq_of_lt (Nat.mod_lt _ (by decide))
  have h2 : (Float64.abs y).toNat / 2 ^ 52 % 2048 = y.toNat / 2 ^ 52 % 2048 := by rw [ha, show (2 : Nat) ^ 63 = 2 ^ 52 * 2048 from by decide +kernel, Nat.mod_mul_right_div_self, Nat.mod_mod]
  have h3 : (Float64.abs y).toNat % 2 ^ 52 = y.toNat % 2 ^ 52 := by rw [ha, show (2 : Nat) ^ 63 = 2 ^ 52 * 2048 from by decide +kernel]; exact Nat.mod_mul_right_mod ..
  unfold decode at h ⊢
  simp only [h1, h2, h3] at h ⊢
  split at h
  · split at h <;> cases h
  · rename_i h4
    rw [if_neg h4]
    split at h
    · rename_i h5
      rw [if_pos h5]; cases h; rfl
    · rename_i h5
      rw [if_neg h5]; cases h; rfl
theorem abs_rv {x : UInt64} (fx : isFinite x = true) : isFinite (Float64.abs x) = true ∧ (rv (Float64.abs x) = rv x ∨ rv (Float64.abs x) = -rv x) := by
  obtain ⟨a, m, e, hx⟩ := dec fx
  have hd := abs_decode hx
  refine ⟨fin_of hd, ?_⟩
  have h1 := val_eq hd
  have h2 := val_eq hx
  unfold sgn at h1 h2
  cases a with
  | false => left; unfold rv; rw [h1, h2]
  | true =>
    right
    have : val (Float64.abs x) = -val x := by rw [h1, h2]; simp
    unfold rv; rw [this, Rat.intCast_neg]; grind
/-- a whole magnitude that a float can hold is hit -/
theorem right_exact {r : UInt64} {neg : Bool} {W q j : Nat} (hW : W = q * 2 ^ j) (hq : q ≤ 2 ^ 53) (h : Right r neg W 1) (f : isFinite r = true) : val r = sgn neg W := by
  obtain ⟨t, rfl, h1, h2, h3⟩ := h
  have hlt : t < infMag := by
    refine Nat.lt_of_le_of_ne h1 fun e => ?_
    subst e
    have : isFinite (pack neg infMag) = false := by cases neg <;> decide +kernel
    rw [this] at f; cases f
  obtain ⟨t', ht⟩ := V_reach j q hq
  have h4 := (h3 hlt t').1
  rw [val_pack neg hlt]
  rw [ht, ← hW] at h4
  unfold Float64.dist at h4
  have : V t = W := by lia
  rw [this]
theorem one_eq : (4607182418800017408 : UInt64) = one := by decide +kernel
theorem ofInt_one : ofInt 1 = one := by decide +kernel
theorem dec_one : decode one = .fin false (2 ^ 52) (-52) := by with_unfolding_all rfl
theorem rv_const {c : UInt64} {i : Int} (h : val c = i * 2 ^ 1074) : rv c = (i : Rat) := by
  have hK := KKr_pos
  have : rv c * (KK : Rat) = (i : Rat) * (KK : Rat) := by rw [rv_mul, h, ← KK_eq, Rat.intCast_mul]
  have h2 : (rv c - i) * (KK : Rat) = 0 := by grind
  rcases Rat.mul_eq_zero.mp h2 with h4 | h4
  · grind
  · rw [h4] at hK; exact absurd hK (by decide)
theorem rv_one : rv one = 1 := rv_const (i := 1) (by decide +kernel)
theorem fin_one : isFinite one = true := by decide +kernel
theorem split_exp {e c : Int} (h1 : c ≤ e) (h2 : -1074 ≤ c) : (e + 1074).toNat = (e - c).toNat + (c + 1074).toNat := by omega
theorem split_one {c : Int} (h1 : c ≤ -52) (h2 : -1074 ≤ c) : 1074 = 52 + (-52 - c).toNat + (c + 1074).toNat := by omega
/-- the rest by one of what lies between -1 and 1 -/
theorem fmod_one {x : UInt64} (fx : isFinite x = true) (h1 : rv x < 1) (h2 : -1 < rv x) : isFinite (fmod x one) = true ∧ val (fmod x one) = val x := by
  obtain ⟨a, m, e, hx⟩ := dec fx
  have he := decode_ge hx
  have hm := decode_le hx
  have hv := val_natAbs hx
  have hlt : (val x).natAbs < 2 ^ 1074 := by
    have c1 := (rv_lt_int (x := x) (i := 1)).1.mp h1
    have c2 := (rv_lt_int (x := x) (i := -1)).2.mp h2
    have e : ((2 ^ 1074 : Nat) : Int) = (2 : Int) ^ 1074 := by rw [Int.natCast_pow]; rfl
    rw [← e] at c1 c2
    generalize 2 ^ 1074 = Z at c1 c2 ⊢
    omega
  have hf : fmod x one = ofBin a (m * 2 ^ (e - min e (-52)).toNat) (min e (-52)) := by
    unfold fmod
    rw [hx, dec_one]
    simp only [align, sgn, Bool.false_eq_true, if_false, Int.toNat_natCast]
    rw [if_neg (by decide)]
    congr 1
    refine Nat.mod_eq_of_lt ?_
    rw [hv] at hlt
    have e1 := split_exp (Int.min_le_left e (-52)) (Int.le_min.mpr ⟨he, by decide⟩)
    have e2 := split_one (Int.min_le_right e (-52)) (Int.le_min.mpr ⟨he, by decide⟩)
    have e3 : 2 ^ 1074 = 2 ^ 52 * 2 ^ (-52 - min e (-52)).toNat * 2 ^ (min e (-52) + 1074).toNat := by rw [← Nat.pow_add, ← Nat.pow_add, ← e2]
    rw [e1, e3, Nat.pow_add, ← Nat.mul_assoc] at hlt
    exact Nat.lt_of_mul_lt_mul_right hlt
  have hR := ofBin_right (neg := a) (M := m * 2 ^ (e - min e (-52)).toNat) (g := min e (-52)) (Int.le_min.mpr ⟨he, by decide⟩)
  rw [← hf] at hR
  have hW : m * 2 ^ (e - min e (-52)).toNat * 2 ^ (min e (-52) + 1074).toNat = m * 2 ^ (e + 1074).toNat := by
    rw [Nat.mul_assoc, ← Nat.pow_add, ← split_exp (Int.min_le_left e (-52)) (Int.le_min.mpr ⟨he, by decide⟩)]
  rw [hW] at hR
  have hfin : isFinite (fmod x one) = true := (rnd (k := 0) (by decide) (by decide) (by rw [← hv]; omega) hR).1
  refine ⟨hfin, ?_⟩
  rw [right_exact rfl (Nat.le_of_lt hm.1) hR hfin, val_eq hx]
theorem isZero_val {x : UInt64} (fx : isFinite x = true) : isZero x = decide (val x = 0) := by
  obtain ⟨a, m, e, hx⟩ := dec fx
  have hv := val_natAbs hx
  unfold isZero
  rw [hx]
  cases m with
  | zero => rw [Nat.zero_mul] at hv; rw [decide_eq_true (by lia)]; rfl
  | succ m =>
    have : 0 < (m + 1) * 2 ^ (e + 1074).toNat := Nat.mul_pos (by lia) (Nat.two_pow_pos _)
    rw [decide_eq_false (by lia)]; rfl
theorem divmod_one (x : UInt64) (fx : isFinite x = true) (h1 : rv x < 1) (h2 : -1 < rv x) :
    (val x = 0 → (divmod x one).2 = zero false) ∧ (0 < val x → (divmod x one).2 = fmod x one) ∧ (val x < 0 → (divmod x one).2 = add (fmod x one) one) := by
  obtain ⟨f, hv⟩ := fmod_one fx h1 h2
  have hz := isZero_val f
  have hl : lt one (zero false) = false := by decide +kernel
  have hs : ∀ y : UInt64, isFinite y = true → lt y (zero false) = decide (val y < 0) := fun y fy => by
    unfold lt
    rw [cmp_lt fy (fin_zero _)]
    have h3 : (rv y < rv (zero false)) ↔ val y < 0 := by rw [rv_lt, val_zero]
    by_cases h : val y < 0
    · rw [decide_eq_true h, decide_eq_true (h3.mpr h)]
    · rw [decide_eq_false h, decide_eq_false fun q => h (h3.mp q)]
  have hc : copysign (zero false) one = zero false := by decide +kernel
  refine ⟨fun h => ?_, fun h => ?_, fun h => ?_⟩
  · unfold divmod
    simp only [hz, hv, h, decide_true, if_true, hc]
  · unfold divmod
    simp only [hz, hv, hl, hs _ f, decide_eq_false (show ¬ (val x = 0) by lia), decide_eq_false (show ¬ (val x < 0) by lia), Bool.false_eq_true, if_false, bne_self_eq_false]
  · unfold divmod
    simp only [hz, hv, hl, hs _ f, decide_eq_false (show ¬ (val x = 0) by lia), decide_eq_true h, Bool.false_eq_true, if_false]
    rfl
theorem rv_of_val {x y : UInt64} (h : val x = val y) : rv x = rv y := by unfold rv; rw [h]
theorem rv_pos {x : UInt64} : (0 < rv x ↔ 0 < val x) ∧ (rv x < 0 ↔ val x < 0) := by
  have h := rv_lt_int (x := x) (i := 0)
  rw [Int.zero_mul] at h
  exact ⟨h.2, h.1⟩
/-- the rest by one, near -/
theorem mod1 {x : UInt64} (fx : isFinite x = true) (h1 : rv x < 1) (h2 : -1 < rv x) :
    (0 ≤ rv x → isFinite (divmod x one).2 = true ∧ rv (divmod x one).2 = rv x) ∧ (rv x < 0 → Nr (divmod x one).2 (rv x + 1) (1 / 2 ^ 53)) := by
  obtain ⟨z1, z2, z3⟩ := divmod_one x fx h1 h2
  obtain ⟨f, hv⟩ := fmod_one fx h1 h2
  refine ⟨fun h => ?_, fun h => ?_⟩
  · rcases Int.lt_trichotomy (val x) 0 with h3 | h3 | h3
    · have := rv_pos.2.mpr h3; grind
    · rw [z1 h3, rv_zero_of (val_zero _), rv_zero_of h3]; exact ⟨fin_zero _, rfl⟩
    · rw [z2 h3]; exact ⟨f, rv_of_val hv⟩
  · rw [z3 (rv_pos.2.mp h)]
    have e := rv_of_val hv
    have := add_nr (x := fmod x one) (y := one) 0 (by decide) f fin_one (by rw [e, rv_one]; grind) (by rw [e, rv_one]; grind)
    rw [e, rv_one] at this
    exact this
theorem floor_int {m : Nat} {e : Int} (he : -1074 ≤ e) : floorOf false m e * 2 ^ 1074 ≤ ((m * 2 ^ (e + 1074).toNat : Nat) : Int) ∧ ((m * 2 ^ (e + 1074).toNat : Nat) : Int) < (floorOf false m e + 1) * 2 ^ 1074 := by
  have hP : (0 : Int) < 2 ^ 1074 := by rw [← KK_eq]; exact KK_pos
  unfold floorOf
  split
  · rename_i h
    have e1 : ((m * 2 ^ (e + 1074).toNat : Nat) : Int) = sgn false m * 2 ^ e.toNat * 2 ^ 1074 := by
      rw [show (e + 1074).toNat = e.toNat + 1074 by lia, Nat.pow_add, ← Nat.mul_assoc, Int.natCast_mul, Int.natCast_mul, Int.natCast_pow, Int.natCast_pow]
      rfl
    rw [e1, Int.add_mul, Int.one_mul]
    generalize (2 : Int) ^ 1074 = Z at hP ⊢
    constructor <;> lia
  · rename_i h
    have hd : (0 : Int) < 2 ^ (-e).toNat := by
      have : ((2 ^ (-e).toNat : Nat) : Int) = 2 ^ (-e).toNat := by rw [Int.natCast_pow]; rfl
      rw [← this]; exact Int.ofNat_lt.mpr (Nat.two_pow_pos _)
    have hr : (0 : Int) < 2 ^ (e + 1074).toNat := by
      have : ((2 ^ (e + 1074).toNat : Nat) : Int) = 2 ^ (e + 1074).toNat := by rw [Int.natCast_pow]; rfl
      rw [← this]; exact Int.ofNat_lt.mpr (Nat.two_pow_pos _)
    have e1 : ((m * 2 ^ (e + 1074).toNat : Nat) : Int) = (m : Int) * 2 ^ (e + 1074).toNat := by rw [Int.natCast_mul, Int.natCast_pow]; rfl
    have e2 : (2 : Int) ^ 1074 = 2 ^ (-e).toNat * 2 ^ (e + 1074).toNat := by rw [← Int.pow_add]; congr 1; lia
    rw [e1, e2]
    have hm : sgn false m = (m : Int) := rfl
    rw [hm, Int.fdiv_eq_ediv_of_nonneg _ (Int.le_of_lt hd)]
    have h1 := Int.ediv_mul_le (m : Int) (Int.ne_of_gt hd)
    have h2 := Int.lt_ediv_add_one_mul_self (m : Int) hd
    have h3 := Int.mul_le_mul_of_nonneg_right h1 (Int.le_of_lt hr)
    have h4 := Int.mul_lt_mul_of_pos_right h2 hr
    rw [Int.mul_assoc] at h3 h4
    exact ⟨h3, h4⟩
/-- the whole part of what is not below nought -/
theorem trunc_rv {x : UInt64} (fx : isFinite x = true) (h : 0 ≤ rv x) : ((Flt.toInt truncOf x : Int) : Rat) ≤ rv x ∧ rv x < ((Flt.toInt truncOf x : Int) : Rat) + 1 := by
  obtain ⟨a, m, e, hx⟩ := dec fx
  have hm : a = false ∨ m = 0 := by
    rcases a with _ | _
    · exact .inl rfl
    · right
      have hv := val_eq hx
      refine Classical.byContradiction fun hne => ?_
      have : 0 < m * 2 ^ (e + 1074).toNat := Nat.mul_pos (by lia) (Nat.two_pow_pos _)
      unfold sgn at hv
      simp only [if_true] at hv
      have h3 : val x < 0 := by lia
      have := rv_pos.2.mpr h3
      grind
  have key : Flt.toInt truncOf x * 2 ^ 1074 ≤ val x ∧ val x < (Flt.toInt truncOf x + 1) * 2 ^ 1074 := by
    have hv := val_eq hx
    have hT : Flt.toInt truncOf x = truncOf a m e := by unfold Flt.toInt; rw [hx]
    rw [hT, hv]
    rcases hm with rfl | rfl
    · exact floor_int (decode_ge hx)
    · have h0 : truncOf a 0 e = 0 := by
        cases a <;> simp [truncOf, ceilOf, floorOf, sgn]
      have hP : (0 : Int) < 2 ^ 1074 := by rw [← KK_eq]; exact KK_pos
      rw [h0, Nat.zero_mul]
      have : sgn a 0 = 0 := by cases a <;> rfl
      rw [this, Int.zero_mul, Int.zero_add, Int.one_mul]
      exact ⟨Int.le_refl _, hP⟩
  constructor
  · exact Rat.not_lt.mp fun q => absurd (rv_lt_int.1.mp q) (by lia)
  · have := rv_lt_int.1.mpr key.2
    rwa [Rat.intCast_add] at this
end Mine
end
section
/-! the hue of a point, in whole numbers -/
set_option Elab.async false
set_option maxHeartbeats 1000000
namespace Mine
noncomputable def Rh (x y : Int) : Int := max3 x y 0 - min3 x y 0
noncomputable def Nraw (x y : Int) : Int := if x = max3 x y 0 then y else if y = max3 x y 0 then 2 * Rh x y - x else 4 * Rh x y + x - y
noncomputable def Nh (x y : Int) : Int := if Nraw x y < 0 then Nraw x y + 6 * Rh x y else Nraw x y
/-- the six sectors -/
noncomputable def Sec (x y R N : Int) : Prop := ∃ a b : Int, 0 < a ∧ 0 ≤ b ∧ R = a + b ∧
  ((x = a + b ∧ y = b ∧ N = b) ∨ (x = a ∧ y = a + b ∧ N = a + b + b) ∨ (x = -b ∧ y = a ∧ N = 2 * (a + b) + b) ∨ (x = -(a + b) ∧ y = -b ∧ N = 3 * (a + b) + b) ∨ (x = -a ∧ y = -(a + b) ∧ N = 4 * (a + b) + b) ∨ (x = b ∧ y = -a ∧ N = 5 * (a + b) + b))
theorem max3_1 {a b c : Int} (h1 : b ≤ a) (h2 : c ≤ a) : max3 a b c = a := by unfold max3; rw [if_neg (by lia), if_neg (by lia)]
theorem max3_2 {a b c : Int} (h1 : a ≤ b) (h2 : c ≤ b) : max3 a b c = b := by
  unfold max3
  by_cases h : b > a
  · rw [if_pos h, if_neg (by lia)]
  · rw [if_neg h, if_neg (by lia)]; lia
theorem max3_3 {a b c : Int} (h1 : a ≤ c) (h2 : b ≤ c) : max3 a b c = c := by
  unfold max3
  by_cases h : b > a
  · rw [if_pos h]; by_cases h3 : c > b
    · rw [if_pos h3]
    · rw [if_neg h3]; lia
  · rw [if_neg h]; by_cases h3 : c > a
    · rw [if_pos h3]
    · rw [if_neg h3]; lia
theorem min3_1 {a b c : Int} (h1 : a ≤ b) (h2 : a ≤ c) : min3 a b c = a := by unfold min3; rw [if_neg (by lia), if_neg (by lia)]
theorem min3_2 {a b c : Int} (h1 : b ≤ a) (h2 : b ≤ c) : min3 a b c = b := by
  unfold min3
  by_cases h : b < a
  · rw [if_pos h, if_neg (by lia)]
  · rw [if_neg h, if_neg (by lia)]; lia
theorem min3_3 {a b c : Int} (h1 : c ≤ a) (h2 : c ≤ b) : min3 a b c = c := by
  unfold min3
  by_cases h : b < a
  · rw [if_pos h]; by_cases h3 : c < b
    · rw [if_pos h3]
    · rw [if_neg h3]; lia
  · rw [if_neg h]; by_cases h3 : c < a
    · rw [if_pos h3]
    · rw [if_neg h3]; lia
theorem rh_of {x y mx mn : Int} (h1 : max3 x y 0 = mx) (h2 : min3 x y 0 = mn) : Rh x y = mx - mn := by unfold Rh; rw [h1, h2]
theorem nraw_x {x y : Int} (h1 : max3 x y 0 = x) : Nraw x y = y := by unfold Nraw; rw [h1, if_pos rfl]
theorem nraw_y {x y : Int} (h1 : max3 x y 0 = y) (h : x ≠ y) : Nraw x y = 2 * Rh x y - x := by unfold Nraw; rw [h1, if_neg h, if_pos rfl]
theorem nraw_0 {x y : Int} (h1 : max3 x y 0 = 0) (h : x ≠ 0) (h' : y ≠ 0) : Nraw x y = 4 * Rh x y + x - y := by unfold Nraw; rw [h1, if_neg h, if_neg h']
theorem nh_of {x y R n N : Int} (h1 : Rh x y = R) (h2 : Nraw x y = n) (h : (n < 0 ∧ N = n + 6 * R) ∨ (0 ≤ n ∧ N = n)) : Nh x y = N := by
  unfold Nh; rw [h1, h2]
  rcases h with ⟨q, e⟩ | ⟨q, e⟩
  · rw [if_pos q, e]
  · rw [if_neg (by lia), e]
theorem sec_mk {x y R n N : Int} (h1 : Rh x y = R) (h2 : Nraw x y = n) (h : (n < 0 ∧ N = n + 6 * R) ∨ (0 ≤ n ∧ N = n)) (hs : Sec x y R N) (b1 : -R ≤ n) (b2 : n ≤ 5 * R) : Sec x y (Rh x y) (Nh x y) ∧ -(Rh x y) ≤ Nraw x y ∧ Nraw x y ≤ 5 * Rh x y := by
  rw [nh_of h1 h2 h, h1, h2]; exact ⟨hs, b1, b2⟩
theorem sec_all {x y : Int} (h : ¬ (x = 0 ∧ y = 0)) : Sec x y (Rh x y) (Nh x y) ∧ -(Rh x y) ≤ Nraw x y ∧ Nraw x y ≤ 5 * Rh x y := by
  by_cases h0 : y < x ∧ 0 ≤ y
  · have m1 := max3_1 (a := x) (b := y) (c := 0) (by lia) (by lia)
    have r := rh_of m1 (min3_3 (by lia) (by lia))
    exact sec_mk (N := y) r (nraw_x m1) (.inr ⟨h0.2, rfl⟩) ⟨x - y, y, by lia, by lia, by lia, .inl ⟨by lia, rfl, rfl⟩⟩ (by lia) (by lia)
  by_cases h1 : 0 < x ∧ x ≤ y
  · by_cases e : x = y
    · subst e
      have m1 := max3_1 (a := x) (b := x) (c := 0) (by lia) (by lia)
      have r := rh_of m1 (min3_3 (by lia) (by lia))
      exact sec_mk (N := x) r (nraw_x m1) (.inr ⟨by lia, rfl⟩) ⟨x, 0, by lia, by lia, by lia, .inr (.inl ⟨rfl, by lia, by lia⟩)⟩ (by lia) (by lia)
    · have m1 := max3_2 (a := x) (b := y) (c := 0) (by lia) (by lia)
      have r := rh_of m1 (min3_3 (by lia) (by lia))
      have n := nraw_y m1 e
      rw [r] at n
      exact sec_mk (N := 2 * (y - 0) - x) r n (.inr ⟨by lia, rfl⟩) ⟨x, y - x, by lia, by lia, by lia, .inr (.inl ⟨rfl, by lia, by lia⟩)⟩ (by lia) (by lia)
  by_cases h2 : x ≤ 0 ∧ 0 < y
  · have m1 := max3_2 (a := x) (b := y) (c := 0) (by lia) (by lia)
    have r := rh_of m1 (min3_1 (by lia) (by lia))
    have n := nraw_y m1 (by lia)
    rw [r] at n
    exact sec_mk (N := 2 * (y - x) - x) r n (.inr ⟨by lia, rfl⟩) ⟨y, -x, by lia, by lia, by lia, .inr (.inr (.inl ⟨by lia, rfl, by lia⟩))⟩ (by lia) (by lia)
  by_cases h3 : x < y ∧ y ≤ 0
  · by_cases e : y = 0
    · subst e
      have m1 := max3_2 (a := x) (b := 0) (c := 0) (by lia) (by lia)
      have r := rh_of m1 (min3_1 (by lia) (by lia))
      have n := nraw_y m1 (by lia)
      rw [r] at n
      exact sec_mk (N := 2 * (0 - x) - x) r n (.inr ⟨by lia, rfl⟩) ⟨-x, 0, by lia, by lia, by lia, .inr (.inr (.inr (.inl ⟨by lia, rfl, by lia⟩)))⟩ (by lia) (by lia)
    · have m1 := max3_3 (a := x) (b := y) (c := 0) (by lia) (by lia)
      have r := rh_of m1 (min3_1 (by lia) (by lia))
      have n := nraw_0 m1 (by lia) e
      rw [r] at n
      exact sec_mk (N := 4 * (0 - x) + x - y) r n (.inr ⟨by lia, rfl⟩) ⟨y - x, -y, by lia, by lia, by lia, .inr (.inr (.inr (.inl ⟨by lia, by lia, by lia⟩)))⟩ (by lia) (by lia)
  by_cases h4 : x < 0 ∧ y ≤ x
  · have m1 := max3_3 (a := x) (b := y) (c := 0) (by lia) (by lia)
    have r := rh_of m1 (min3_2 (by lia) (by lia))
    have n := nraw_0 m1 (by lia) (by lia)
    rw [r] at n
    exact sec_mk (N := 4 * (0 - y) + x - y) r n (.inr ⟨by lia, rfl⟩) ⟨-x, x - y, by lia, by lia, by lia, .inr (.inr (.inr (.inr (.inl ⟨by lia, by lia, by lia⟩))))⟩ (by lia) (by lia)
  · have m1 := max3_1 (a := x) (b := y) (c := 0) (by lia) (by lia)
    have r := rh_of m1 (min3_2 (by lia) (by lia))
    exact sec_mk (N := y + 6 * (x - y)) r (nraw_x m1) (.inl ⟨by lia, rfl⟩) ⟨-y, x, by lia, by lia, by lia, .inr (.inr (.inr (.inr (.inr ⟨rfl, by lia, by lia⟩))))⟩ (by lia) (by lia)
theorem sec_of {x y : Int} (h : ¬ (x = 0 ∧ y = 0)) : Sec x y (Rh x y) (Nh x y) := (sec_all h).1
theorem Sec.bound {x y R N : Int} (h : Sec x y R N) : 0 < R ∧ 0 ≤ N ∧ N < 6 * R := by
  obtain ⟨a, b, ha, hb, rfl, h⟩ := h
  lia
/-- a sixth of a turn back -/
theorem Sec.turn {x y R N : Int} (h : Sec x y R N) : (R ≤ N ∧ Sec y (y - x) R (N - R)) ∨ (N < R ∧ Sec y (y - x) R (N + 5 * R)) := by
  obtain ⟨a, b, ha, hb, rfl, h⟩ := h
  rcases h with ⟨h1, h2, h3⟩ | ⟨h1, h2, h3⟩ | ⟨h1, h2, h3⟩ | ⟨h1, h2, h3⟩ | ⟨h1, h2, h3⟩ | ⟨h1, h2, h3⟩
  · exact .inr ⟨by lia, a, b, ha, hb, rfl, .inr (.inr (.inr (.inr (.inr ⟨by lia, by lia, by lia⟩))))⟩
  · exact .inl ⟨by lia, a, b, ha, hb, rfl, .inl ⟨by lia, by lia, by lia⟩⟩
  · exact .inl ⟨by lia, a, b, ha, hb, rfl, .inr (.inl ⟨by lia, by lia, by lia⟩)⟩
  · exact .inl ⟨by lia, a, b, ha, hb, rfl, .inr (.inr (.inl ⟨by lia, by lia, by lia⟩))⟩
  · exact .inl ⟨by lia, a, b, ha, hb, rfl, .inr (.inr (.inr (.inl ⟨by lia, by lia, by lia⟩)))⟩
  · exact .inl ⟨by lia, a, b, ha, hb, rfl, .inr (.inr (.inr (.inr (.inl ⟨by lia, by lia, by lia⟩))))⟩
/-- from the first sector on -/
theorem pair_first {x y R N x' y' R' N' : Int} (h : Sec x y R N) (hN : N < R) (h' : Sec x' y' R' N') (hdet : x * y' - y * x' = 1) : 0 < N' * R - N * R' ∧ N' * R - N * R' < 3 * (R * R') := by
  obtain ⟨a, b, ha, hb, rfl, h⟩ := h
  have h0 : x = a + b ∧ y = b ∧ N = b := by lia
  obtain ⟨rfl, rfl, rfl⟩ := h0
  clear h hN
  obtain ⟨c, d, hc, hd, rfl, h'⟩ := h'
  have p1 := Int.mul_pos ha hc
  have p2 := Int.mul_nonneg (Int.le_of_lt ha) hd
  have p3 := Int.mul_nonneg hb (Int.le_of_lt hc)
  have p4 := Int.mul_nonneg hb hd
  have e1 : c * a = a * c := Int.mul_comm ..
  have e2 : c * N = N * c := Int.mul_comm ..
  have e3 : d * a = a * d := Int.mul_comm ..
  have e4 : d * N = N * d := Int.mul_comm ..
  rcases h' with ⟨y1, y2, y3⟩ | ⟨y1, y2, y3⟩ | ⟨y1, y2, y3⟩ | ⟨y1, y2, y3⟩ | ⟨y1, y2, y3⟩ | ⟨y1, y2, y3⟩
  all_goals
    simp only [y1, y2, y3, Int.add_mul, Int.mul_add, Int.mul_neg, Int.mul_assoc, e1, e2, e3, e4] at hdet ⊢
    clear y1 y2 y3 e1 e2 e3 e4 ha hb hc hd
    generalize a * c = P1 at *
    generalize a * d = P2 at *
    generalize N * c = P3 at *
    generalize N * d = P4 at *
    lia
theorem pair_turn : ∀ (k : Nat) {x y R N x' y' R' N' : Int}, Sec x y R N → N < ((k : Int) + 1) * R → Sec x' y' R' N' → x * y' - y * x' = 1 → ∃ e, 0 < e ∧ e < 3 * (R * R') ∧ (N' * R - N * R' = e ∨ N' * R - N * R' = e - 6 * (R * R')) := by
  intro k
  induction k with
  | zero =>
    intro x y R N x' y' R' N' h hN h' hdet
    have := pair_first h (by simpa using hN) h' hdet
    exact ⟨_, this.1, this.2, .inl rfl⟩
  | succ k ih =>
    intro x y R N x' y' R' N' h hN h' hdet
    have hb := h.bound
    have hb' := h'.bound
    rcases h.turn with ⟨q, t⟩ | ⟨q, t⟩
    · have hdet' : y * (y' - x') - (y - x) * y' = 1 := by rw [Int.mul_sub, Int.sub_mul]; lia
      have hN' : N - R < ((k : Int) + 1) * R := by
        rw [show ((k + 1 : Nat) : Int) = (k : Int) + 1 from rfl, Int.add_mul, Int.one_mul] at hN; lia
      have u1 := Int.mul_lt_mul_of_pos_right hb.2.2 hb'.1
      have u2 := Int.mul_nonneg hb'.2.1 (Int.le_of_lt hb.1)
      have e0 : R' * R = R * R' := Int.mul_comm ..
      rcases h'.turn with ⟨q', t'⟩ | ⟨q', t'⟩ <;> obtain ⟨e, z1, z2, z3⟩ := ih t hN' t' hdet'
      · refine ⟨e, z1, z2, ?_⟩
        simp only [Int.sub_mul, e0] at z3
        generalize R * R' = P at *
        generalize N' * R = A at *
        generalize N * R' = B at *
        lia
      · refine ⟨e, z1, z2, ?_⟩
        simp only [Int.sub_mul, Int.add_mul, Int.mul_assoc, e0] at z3 u1
        generalize R * R' = P at *
        generalize N' * R = A at *
        generalize N * R' = B at *
        lia
    · exact ⟨_, (pair_first h q h' hdet).1, (pair_first h q h' hdet).2, .inl rfl⟩
theorem Sec.side {x y R N : Int} (h : Sec x y R N) : (y < 0 → 3 * R < N) ∧ (0 ≤ y → N ≤ 3 * R) := by
  obtain ⟨a, b, ha, hb, rfl, h⟩ := h
  lia
theorem hue_pair {x y R N x' y' R' N' : Int} (h : Sec x y R N) (h' : Sec x' y' R' N') (hdet : x * y' - y * x' = 1) :
    (¬ (y < 0 ∧ 0 ≤ y') ∧ 0 < N' * R - N * R' ∧ N' * R - N * R' < 3 * (R * R')) ∨ ((y < 0 ∧ 0 ≤ y') ∧ -(6 * (R * R')) < N' * R - N * R' ∧ N' * R - N * R' < -(3 * (R * R'))) := by
  have b1 := h.bound
  have b2 := h'.bound
  have s1 := h.side
  have s2 := h'.side
  obtain ⟨e, z1, z2, z3⟩ := pair_turn 5 h (by lia) h' hdet
  have e0 : R' * R = R * R' := Int.mul_comm ..
  have u1 : ∀ {m : Int}, N < m * R → N * R' < m * (R * R') := fun q => by rw [← Int.mul_assoc]; exact Int.mul_lt_mul_of_pos_right q b2.1
  have u2 : ∀ {m : Int}, m * R < N → m * (R * R') < N * R' := fun q => by rw [← Int.mul_assoc]; exact Int.mul_lt_mul_of_pos_right q b2.1
  have u3 : ∀ {m : Int}, N' ≤ m * R' → N' * R ≤ m * (R * R') := fun q => by rw [← e0, ← Int.mul_assoc]; exact Int.mul_le_mul_of_nonneg_right q (Int.le_of_lt b1.1)
  have u4 : ∀ {m : Int}, m * R' < N' → m * (R * R') < N' * R := fun q => by rw [← e0, ← Int.mul_assoc]; exact Int.mul_lt_mul_of_pos_right q b1.1
  by_cases c1 : y < 0
  · have v1 := u2 (s1.1 c1)
    by_cases c2 : 0 ≤ y'
    · have v2 := u3 (s2.2 c2)
      refine .inr ⟨⟨c1, c2⟩, ?_⟩
      clear u1 u2 u3 u4 hdet
      generalize R * R' = P at *
      generalize N' * R = A at *
      generalize N * R' = B at *
      lia
    · have v2 := u4 (s2.1 (by lia))
      have v3 := u1 b1.2.2
      refine .inl ⟨fun q => c2 q.2, ?_⟩
      clear u1 u2 u3 u4 hdet
      generalize R * R' = P at *
      generalize N' * R = A at *
      generalize N * R' = B at *
      lia
  · have v1 : N * R' ≤ 3 * (R * R') := by rw [← Int.mul_assoc]; exact Int.mul_le_mul_of_nonneg_right (s1.2 (by lia)) (Int.le_of_lt b2.1)
    have v2 := Int.mul_nonneg b2.2.1 (Int.le_of_lt b1.1)
    refine .inl ⟨fun q => c1 q.1, ?_⟩
    clear u1 u2 u3 u4 hdet
    generalize R * R' = P at *
    generalize N' * R = A at *
    generalize N * R' = B at *
    lia
end Mine
end
section
/-! the number twelve -/
set_option Elab.async false
namespace Mine
noncomputable def dsc (M : S4) : Int := if M.2.1 < 0 ∧ 0 ≤ M.2.2.2 then 1 else 0
noncomputable abbrev bqM (M : S4) : Int := bq M.1 M.2.1 M.2.2.1 M.2.2.2
noncomputable abbrev muM (M : S4) : Nat := mu M.1 M.2.1 M.2.2.1 M.2.2.2
noncomputable def Ff : Nat → S4 → Int
  | 0, _ => 0
  | n + 1, M => if M = (1, 0, 0, 1) then 0 else 3 - bqM M - 12 * dsc M + Ff n (stp M (bqM M))
noncomputable def FF (M : S4) : Int := Ff (muM M) M
theorem mu_lt {M : S4} (hdet : det4 M = 1) (hne : M ≠ (1, 0, 0, 1)) : muM (stp M (bqM M)) < muM M := by
  obtain ⟨a, b, c, d⟩ := M
  exact mu_less hdet fun (h : a = 1 ∧ b = 0 ∧ c = 0 ∧ d = 1) => hne (by rw [h.1, h.2.1, h.2.2.1, h.2.2.2])
theorem Ff_any : ∀ (n m : Nat) (M : S4), det4 M = 1 → muM M ≤ n → muM M ≤ m → Ff n M = Ff m M := by
  intro n
  induction n with
  | zero =>
    intro m M hd hn _
    have hI : M = (1, 0, 0, 1) := by
      refine Classical.byContradiction fun h => ?_
      have := mu_lt hd h; lia
    subst hI
    cases m with
    | zero => rfl
    | succ m => simp [Ff]
  | succ n ih =>
    intro m M hd hn hm
    by_cases hI : M = (1, 0, 0, 1)
    · subst hI
      cases m with
      | zero => simp [Ff]
      | succ m => simp [Ff]
    · have hlt := mu_lt hd hI
      cases m with
      | zero => lia
      | succ m =>
        simp only [Ff, if_neg hI]
        rw [ih m _ (by rw [det_stp, hd]) (by lia) (by lia)]
theorem FF_step {M : S4} (hd : det4 M = 1) : FF M = 3 - bqM M - 12 * dsc M + FF (stp M (bqM M)) := by
  by_cases hI : M = (1, 0, 0, 1)
  · subst hI; decide
  · have hlt := mu_lt hd hI
    have h1 : FF M = Ff (muM M - 1 + 1) M := by unfold FF; congr 1; omega
    rw [h1, Ff, if_neg hI]
    congr 1
    exact Ff_any _ _ _ (by rw [det_stp, hd]) (by omega) (Nat.le_refl _)
theorem FF_pos (q : Int) : FF (0, 1, -1, q) = q - 3 := by
  rw [FF_step (by simp [det4])]
  have e1 : bqM (0, 1, -1, q) = 0 := by simp [bqM, bq]
  rw [e1]
  have e2 : stp (0, 1, -1, q) 0 = (-1, q, 0, -1) := by simp [stp]
  rw [e2, FF_step (by simp [det4])]
  have e3 : bqM (-1, q, 0, -1) = -q := by simp [bqM, bq]
  rw [e3]
  have e4 : stp (-1, q, 0, -1) (-q) = (0, -1, 1, 0) := by simp [stp]
  rw [e4]
  have e5 : FF (0, -1, 1, 0) = -9 := by decide
  rw [e5]
  simp [dsc]; lia
theorem FF_neg (q : Int) : FF (0, -1, 1, q) = -9 - q := by
  rw [FF_step (by simp [det4])]
  have e1 : bqM (0, -1, 1, q) = 0 := by simp [bqM, bq]
  rw [e1]
  have e2 : stp (0, -1, 1, q) 0 = (1, q, 0, 1) := by simp [stp]
  rw [e2, FF_step (by simp [det4])]
  have e3 : bqM (1, q, 0, 1) = q := by simp [bqM, bq]
  rw [e3]
  have e4 : stp (1, q, 0, 1) q = (0, 1, -1, 0) := by simp [stp]
  rw [e4]
  have e5 : FF (0, 1, -1, 0) = -3 := by decide
  rw [e5]
  simp only [dsc]
  split <;> split <;> lia
/-- one more of the first to the second -/
noncomputable def Star (a b c d : Int) : Prop := FF (a, b, c + a, d + b) = FF (a, b, c, d) + 1
theorem star_tele {e f a b : Int} (q1 : Int) : ∀ k : Nat, (∀ q, q1 ≤ q → q < q1 + k → Star e f (q * e - a) (q * f - b)) →
    FF (e, f, (q1 + k) * e - a, (q1 + k) * f - b) = FF (e, f, q1 * e - a, q1 * f - b) + k
  | 0, _ => by simp
  | k + 1, h => by
    have h1 := star_tele q1 k fun q x y => h q x (by lia)
    have h2 := h (q1 + k) (by lia) (by lia)
    unfold Star at h2
    have e1 : (q1 + (k + 1 : Nat)) * e - a = (q1 + k) * e - a + e := by grind
    have e2 : (q1 + (k + 1 : Nat)) * f - b = (q1 + k) * f - b + f := by grind
    rw [e1, e2, h2, h1]; lia
theorem star_le {e f a b q1 q2 : Int} (hle : q1 ≤ q2) (h : ∀ q, q1 ≤ q → q < q2 → Star e f (q * e - a) (q * f - b)) :
    FF (e, f, q1 * e - a, q1 * f - b) - q1 = FF (e, f, q2 * e - a, q2 * f - b) - q2 := by
  obtain ⟨k, rfl⟩ := Int.le.dest hle
  rw [star_tele (e := e) (f := f) (a := a) (b := b) q1 k h]
  lia
theorem star_both {e f a b q1 q2 : Int} (h : ∀ q, min q1 q2 ≤ q → q < max q1 q2 → Star e f (q * e - a) (q * f - b)) :
    FF (e, f, q1 * e - a, q1 * f - b) - q1 = FF (e, f, q2 * e - a, q2 * f - b) - q2 := by
  rcases Int.le_total q1 q2 with hle | hle
  · rw [Int.min_eq_left hle, Int.max_eq_right hle] at h
    exact star_le hle h
  · rw [Int.min_eq_right hle, Int.max_eq_left hle] at h
    exact (star_le hle h).symm
theorem dsc_add (a b c d : Int) : dsc (a, b, c + a, d + b) + dsc (c + a, d + b, c, d) = dsc (a, b, c, d) := by
  simp only [dsc]; split <;> split <;> split <;> lia
theorem bq_add {a b c d : Int} (hdet : a * d - b * c = 1) : bq (c + a) (d + b) c d = bq a b c d + 1 := by
  unfold bq
  split
  · rename_i hc
    subst hc
    have h : a * d = 1 := by simpa using hdet
    rcases unit_cases h with ⟨rfl, rfl⟩ | ⟨rfl, rfl⟩ <;> lia
  · rename_i hc
    have : Int.fdiv (-(c + a)) c = Int.fdiv (-a) c - 1 := by
      rw [show -(c + a) = -a + (-1) * c by lia, Int.add_mul_fdiv_right _ _ hc]; lia
    lia
theorem step_B {a b c d : Int} (hdet : a * d - b * c = 1) : FF (c + a, d + b, c, d) = FF (a, b, c, d) - 1 - 12 * dsc (c + a, d + b, c, d) + 12 * dsc (a, b, c, d) := by
  have hd1 : det4 (a, b, c, d) = 1 := hdet
  have hd2 : det4 (c + a, d + b, c, d) = 1 := by simp only [det4]; grind
  rw [FF_step hd1, FF_step hd2]
  simp only [bqM, bq_add hdet, stp]
  have e1 : (bq a b c d + 1) * c - (c + a) = bq a b c d * c - a := by grind
  have e2 : (bq a b c d + 1) * d - (d + b) = bq a b c d * d - b := by grind
  rw [e1, e2]; lia
end Mine
end
section
/-! the number twelve: the induction and the ring -/
set_option Elab.async false
set_option maxHeartbeats 2000000
namespace Mine
theorem mul_between {e q q' : Int} : (0 ≤ e → q ≤ q' → q * e ≤ q' * e) ∧ (e ≤ 0 → q ≤ q' → q' * e ≤ q * e) :=
  ⟨fun h1 h2 => Int.mul_le_mul_of_nonneg_right h2 h1, fun h1 h2 => Int.mul_le_mul_of_nonpos_right h2 h1⟩
theorem abs_sum {p q : Int} {s : Nat} (h1 : p + q ≤ s) (h2 : p - q ≤ s) (h3 : -p + q ≤ s) (h4 : -p - q ≤ s) : p.natAbs + q.natAbs ≤ s := by omega
theorem abs_lt4 {p q a c : Int} (h1 : p + q < a.natAbs + c.natAbs) (h2 : p - q < a.natAbs + c.natAbs) (h3 : -p + q < a.natAbs + c.natAbs) (h4 : -p - q < a.natAbs + c.natAbs) : p.natAbs + q.natAbs < a.natAbs + c.natAbs := by omega
theorem abs_pos {a : Int} (h : 0 ≤ a) : (a.natAbs : Int) = a := by lia
theorem abs_neg {a : Int} (h : a ≤ 0) : (a.natAbs : Int) = -a := by omega
theorem meas {a c P P' e : Int} (he : e = c + a) (hr : (0 < e ∧ 0 ≤ P' - a ∧ P' - a < e) ∨ (e < 0 ∧ e < P' - a ∧ P' - a ≤ 0)) (ha : a ≠ 0)
    (h : (0 < e ∧ P ≤ P' - e ∧ e ≤ P) ∨ (e < 0 ∧ P' - e ≤ P ∧ P ≤ e) ∨ (0 < e ∧ P' ≤ P ∧ P ≤ 0) ∨ (e < 0 ∧ P ≤ P' ∧ 0 ≤ P)) : e.natAbs + (P - a).natAbs < a.natAbs + c.natAbs := by
  rcases h with ⟨h1, h2, h3⟩ | ⟨h1, h2, h3⟩ | ⟨h1, h2, h3⟩ | ⟨h1, h2, h3⟩
  · have hr' : P' - a < e := by lia
    clear hr
    have ea := abs_pos (a := a) (by lia)
    have ec := abs_neg (a := c) (by lia)
    exact abs_lt4 (by lia) (by lia) (by lia) (by lia)
  · have hr' : e < P' - a := by lia
    clear hr
    have ea := abs_neg (a := a) (by lia)
    have ec := abs_pos (a := c) (by lia)
    exact abs_lt4 (by lia) (by lia) (by lia) (by lia)
  · have hr' : 0 ≤ P' - a := by lia
    clear hr
    have ea := abs_neg (a := a) (by lia)
    have ec := abs_pos (a := c) (by lia)
    exact abs_lt4 (by lia) (by lia) (by lia) (by lia)
  · have hr' : P' - a ≤ 0 := by lia
    clear hr
    have ea := abs_pos (a := a) (by lia)
    have ec := abs_neg (a := c) (by lia)
    exact abs_lt4 (by lia) (by lia) (by lia) (by lia)
theorem meas_q {e q q' : Int} (he : e ≠ 0) (h1 : min q' 1 ≤ q) (h2 : q < max q' 1) : (0 < e ∧ q * e ≤ q' * e - e ∧ e ≤ q * e) ∨ (e < 0 ∧ q' * e - e ≤ q * e ∧ q * e ≤ e) ∨ (0 < e ∧ q' * e ≤ q * e ∧ q * e ≤ 0) ∨ (e < 0 ∧ q * e ≤ q' * e ∧ 0 ≤ q * e) := by
  have k1 : (q' - 1) * e = q' * e - e := by rw [Int.sub_mul, Int.one_mul]
  rcases Int.lt_or_gt_of_ne he with h | h
  · rcases Int.le_total 1 q' with hle | hle
    · refine .inr (.inl ⟨h, ?_, ?_⟩)
      · rw [← k1]; exact (mul_between (e := e)).2 (Int.le_of_lt h) (by lia)
      · have := (mul_between (e := e) (q := 1) (q' := q)).2 (Int.le_of_lt h) (by lia)
        rwa [Int.one_mul] at this
    · refine .inr (.inr (.inr ⟨h, (mul_between (e := e)).2 (Int.le_of_lt h) (by lia), ?_⟩))
      have := (mul_between (e := e) (q := q) (q' := 0)).2 (Int.le_of_lt h) (by lia)
      rwa [Int.zero_mul] at this
  · rcases Int.le_total 1 q' with hle | hle
    · refine .inl ⟨h, ?_, ?_⟩
      · rw [← k1]; exact (mul_between (e := e)).1 (Int.le_of_lt h) (by lia)
      · have := (mul_between (e := e) (q := 1) (q' := q)).1 (Int.le_of_lt h) (by lia)
        rwa [Int.one_mul] at this
    · refine .inr (.inr (.inl ⟨h, (mul_between (e := e)).1 (Int.le_of_lt h) (by lia), ?_⟩))
      have := (mul_between (e := e) (q := q) (q' := 0)).1 (Int.le_of_lt h) (by lia)
      rwa [Int.zero_mul] at this
/-- the quotient 1 serves at (w, p), where x p is nought -/
theorem key_zero {a b f q : Int} (h1 : a * f = 1) : FF (0, f, q * 0 - a, q * f - b) - q = FF (0, f, 1 * 0 - a, 1 * f - b) - 1 := by
  rcases unit_cases h1 with ⟨rfl, rfl⟩ | ⟨rfl, rfl⟩
  · simp only [Int.mul_zero, Int.mul_one, Int.zero_sub]
    rw [FF_pos, FF_pos]; lia
  · simp only [Int.mul_zero, Int.zero_sub, Int.neg_neg]
    rw [FF_neg, FF_neg]; lia
theorem bq_between {a b e f : Int} (he : e ≠ 0) : (0 < e ∧ 0 ≤ bq a b e f * e - a ∧ bq a b e f * e - a < e) ∨ (e < 0 ∧ e < bq a b e f * e - a ∧ bq a b e f * e - a ≤ 0) := by
  exact rest_of he
theorem star_zero {b c d : Int} (h1 : b * -c = 1) : Star 0 b c d := by
  unfold Star
  rcases unit_cases h1 with ⟨rfl, h2⟩ | ⟨rfl, h2⟩
  · have : c = -1 := by lia
    subst this
    rw [show (-1 : Int) + 0 = -1 from rfl, FF_pos, FF_pos]; lia
  · have : c = 1 := by lia
    subst this
    rw [show (1 : Int) + 0 = 1 from rfl, FF_neg, FF_neg]; lia
theorem star_all : ∀ (n : Nat) (a b c d : Int), a * d - b * c = 1 → a.natAbs + c.natAbs ≤ n → Star a b c d := by
  intro n
  induction n using Nat.strongRecOn with
  | ind n ih =>
    intro a b c d hdet hn
    by_cases ha : a = 0
    · subst ha
      exact star_zero (by rw [Int.mul_neg]; lia)
    · have hdp : a * (d + b) - b * (c + a) = 1 := by grind
      have hB := step_B hdet
      have hadd := dsc_add a b c d
      have e1 : (1 : Int) * (c + a) - a = c := by lia
      have e2 : (1 : Int) * (d + b) - b = d := by lia
      have key : FF (c + a, d + b, bq a b (c + a) (d + b) * (c + a) - a, bq a b (c + a) (d + b) * (d + b) - b) - bq a b (c + a) (d + b) = FF (c + a, d + b, 1 * (c + a) - a, 1 * (d + b) - b) - 1 := by
        by_cases he : c + a = 0
        · rw [he] at hdp ⊢
          exact key_zero (by simpa using hdp)
        · refine star_both fun q h1 h2 => ?_
          refine ih _ (Nat.lt_of_lt_of_le (meas rfl (bq_between he) ha (meas_q he h1 h2)) hn) _ _ _ _ ?_ (Nat.le_refl _)
          clear ih hB hadd e1 e2 hn h1 h2
          grind
      rw [e1, e2] at key
      have hA := FF_step (M := (a, b, c + a, d + b)) hdp
      simp only [stp, bqM] at hA
      clear ih hdet hdp hn e1 e2
      unfold Star
      rw [hA]
      generalize FF (c + a, d + b, bq a b (c + a) (d + b) * (c + a) - a, bq a b (c + a) (d + b) * (d + b) - b) = X at *
      generalize bq a b (c + a) (d + b) = Y at *
      clear hA
      lia
theorem FF_any {M : S4} (hd : det4 M = 1) (q : Int) : FF M = 3 - q - 12 * dsc M + FF (stp M q) := by
  obtain ⟨a, b, c, d⟩ := M
  rw [FF_step hd]
  simp only [det4] at hd
  have := star_both (e := c) (f := d) (a := a) (b := b) (q1 := bq a b c d) (q2 := q) fun q _ _ => star_all _ _ _ _ _ (by grind) (Nat.le_refl _)
  simp only [stp, bqM]
  lia
noncomputable def dscB (M : S4) : Bool := decide (M.2.1 < 0) && decide (0 ≤ M.2.2.2)
theorem dsc_B (M : S4) : dsc M = if dscB M then 1 else 0 := by
  unfold dsc dscB
  by_cases h1 : M.2.1 < 0 <;> by_cases h2 : 0 ≤ M.2.2.2 <;> simp [h1, h2]
theorem ring_count : ∀ (l : List Int) (M : S4), det4 M = 1 → FF M = 3 * l.length - l.sum - 12 * (((List.range l.length).countP fun k => dscB ((l.take k).foldl stp M) : Nat) : Int) + FF (l.foldl stp M)
  | [], M, _ => by simp
  | q :: r, M, hd => by
    have h1 := FF_any hd q
    have h2 := ring_count r (stp M q) (by rw [det_stp, hd])
    rw [h1, h2, dsc_B]
    simp only [List.length_cons, List.sum_cons, List.foldl_cons, List.range_succ_eq_map, List.countP_cons, List.countP_map, List.take_zero, List.foldl_nil]
    have e : (List.countP ((fun k => dscB (List.foldl stp M (List.take k (q :: r)))) ∘ Nat.succ) (List.range r.length)) = List.countP (fun k => dscB (List.foldl stp (stp M q) (List.take k r))) (List.range r.length) := by
      congr 1
    rw [e]
    by_cases hb : dscB M = true
    · simp only [hb, if_true]; lia
    · simp only [hb]; simp; lia
theorem ring_twelve {row : List Int} (hR : Ring row) : 12 * (((List.range row.length).countP fun k => dscB (walkS (row.take k)) : Nat) : Int) = 3 * row.length - row.sum := by
  have h := ring_count row (1, 0, 0, 1) (by decide)
  have hc := hR.closed
  unfold walkS at hc
  rw [hc] at h
  unfold walkS
  lia
end Mine
end
section
open PySem PySem.W PyProof.Rows PySem.Calls PySem.Spec
set_option Elab.async false
set_option maxRecDepth 100000
set_option maxHeartbeats 4000000
set_option pp.deepTerms false
set_option pp.deepTerms.threshold 6
namespace Mine
local macro_rules | `(tactic| k_ne) => `(tactic| walk_at "my kne")
local macro_rules | `(tactic| k_lt $h:ident) => `(tactic| (replace $h := allLt_of $h; dsimp only [AllLt] at $h:ident))
local macro_rules | `(tactic| k_intsEnd) => `(tactic| exact IntsAre.append (by assumption) (.cons _ _ (.cons _ _ (.cons _ _ .nil))))
local macro_rules | `(tactic| walk_at "my inC") => `(tactic| (intro L' h' tk' cells' F' N' Y'; k_cells Y'; (try simp only [List.cons_append, List.nil_append] at N')))
local macro_rules | `(tactic| walk_at "my inX") => `(tactic| (intro h' n' F' N'; (try dsimp only at N')))
local macro_rules | `(tactic| walk_at "my inL") => `(tactic| (intro L' h' F' N'))
local macro_rules | `(tactic| walk_at "my in5") => `(tactic| (intro h' tk' t' F' N'))
local macro_rules | `(tactic| walk_at "my in3") => `(tactic| (intro h' F' N'))
local macro_rules | `(tactic| walk_at "my inE") => `(tactic| (intro D' h' F' N' l1; (try k_lt l1); (have hI8' := IntsAre.take (by assumption) 1)))
local macro_rules | `(tactic| walk_at "my inD") => `(tactic| (intro D' h' F' N' l1; (try k_lt l1)))
local macro_rules | `(tactic| walk_at "my inW") => `(tactic| (intro D' ws' h' F' N' l1 hI'; (try k_lt l1)))
local macro_rules | `(tactic| walk_at "my inI") => `(tactic| (intro I' h' oI' F' N' l1 hi'; (try k_lt l1)))
local macro_rules | `(tactic| walk_at "my inJ") => `(tactic| (intro j' hj1' hj2'))
local macro_rules | `(tactic| walk_at $s:str) => `(tactic| k_extra $s)
section
theorem i2d_call (w : World) (loose : List Str) (mean : ExcName → Option Value) (mg mb : Str → Option Value) (dp un : Nat) (fr : Option (List Env)) (gd : Option (List Code)) (s : Shared)
    (Q E : Value → Shared → Prop) (g₀ : Heap) (X : (Mine.hk.heap_1 w.params).In g₀) (T : Top topProg loose mean mg mb g₀) (S : g₀.StaysIn s.heap) (C : CodeHd g₀ 48 44) (n44 : g₀.get? 44 = none) (hd : dp < 800)
    (ht : Tab44 s.heap)
    (a n : Nat) (ta tn : Tok) (ha : a < 2 ^ 64) (hn0 : 0 < n) (hn1 : n ≤ 64)
    (hret : ∀ D h' tk' vs e, (∀ b o, b ≠ 44 → s.heap.get? b = some o → h'.get? b = some o) → Step44 s.heap h' → s.heap.get? D = none → h'.get? D = some (W.listOf (List.toArray vs) e) → IntsAre vs (dgI n (cnt a n) a) → Q (.ref D) { s with heap := h', toks := tk' }) :
    wpAny (model PySem.Challenge.rw_rl0058_01.row.prog w) (AA dp fr gd un) (call (.ref 49) [.int a ta, .int n tn]) Q E s := by
  k_with_none
  k_with "my fold" => ((try (with_reducible refine GTurn.letG ?_; intro gk)); (try (show wpAny _ _ _ _ _ _; k_fold)))
  k_with "my steps" => (walk_at "my fold"; repeat' (first | (k_unfold; (try dsimp only)) | (k_end; wrow_close) | walk1 | (dsimp only; walk1) | (leave1; walk_say "STEP leave1"; try dsimp only) | fail "no step"))
  k_with "my pick" => first | with_reducible assumption | with_reducible exact And.left (by assumption) | with_reducible exact And.left (And.right (by assumption)) | with_reducible exact And.left (And.right (And.right (by assumption))) | with_reducible exact And.left (And.right (And.right (And.right (by assumption)))) | with_reducible exact And.left (And.right (And.right (And.right (And.right (by assumption))))) | with_reducible exact And.left (And.right (And.right (And.right (And.right (And.right (by assumption)))))) | with_reducible exact And.left (And.right (And.right (And.right (And.right (And.right (And.right (by assumption))))))) | with_reducible exact And.left (And.right (And.right (And.right (And.right (And.right (And.right (And.right (by assumption)))))))) | with_reducible exact And.left (And.right (And.right (And.right (And.right (And.right (And.right (And.right (And.right (by assumption))))))))) | with_reducible exact And.left (And.right (And.right (And.right (And.right (And.right (And.right (And.right (And.right (And.right (by assumption)))))))))) | with_reducible exact And.left (And.right (And.right (And.right (And.right (And.right (And.right (And.right (And.right (And.right (And.right (by assumption)))))))))))
  k_with "my ne" => first | exact Nat.ne_of_gt (by walk_at "my pick") | exact Nat.ne_of_lt (by walk_at "my pick") | walk_at "my pick" | exact Ne.symm (by walk_at "my pick")
  k_with "my kn" => (first | walk_at "my ne" | omega)
  k_with "my kne" => (refine neN ?_; (try dsimp only); walk_at "my kn")
  k_with "eval Name" => (k_here; k_dflt (refine' nameX_L ?Fw6 ?vw6 ?_ ?aw6 ?bw6; (case Fw6 => k_asm); (case aw6 => rfl); (case bw6 => rfl); (case vw6 => exact Eq.refl (some _)); k_whole))
  k_with "execs cons" => ((show wpAny _ _ _ _ _ _); k_fold)
  k_with "call builtin:max" => ((with_reducible show wpAny _ _ (call (Value.builtin "max") [Value.int _ _, Value.int _ _, Value.int _ _]) _ _ _); (with_unfolding_all refine' max3_N ?k0w8 ?k1w8 ?k2w8 ?_; (case k0w8 => rfl); (case k1w8 => k_asm); (case k2w8 => k_asm); k_whole); walk_at "my in5"; (try k_sweep))
  k_with "call builtin:min" => ((with_reducible show wpAny _ _ (call (Value.builtin "min") [Value.int _ _, Value.int _ _, Value.int _ _]) _ _ _); (with_unfolding_all refine' min3_N ?k0w9 ?k1w9 ?k2w9 ?_; (case k0w9 => rfl); (case k1w9 => k_asm); (case k2w9 => k_asm); k_whole); walk_at "my in5"; (try k_sweep))
  k_with "call builtin:list.append" => ((show wpAny _ _ (call (Value.builtin "list.append") [Value.ref _, _]) _ _ _); k_dflt (refine' append_K ?k1w10 ?k2w10 ?k3w10 ?_ ?zw10; (case k1w10 => k_asm); (case k2w10 => k_asm); (case k3w10 => k_upd); (case zw10 => size_fits); k_whole); walk_at "my in3"; (try k_sweep))
  k_with "my enter" => (k_dflt (refine' enter ?Xw11 ?Tw11 ?hdw11 ?how11 ?hcdw11 ?hbw11 ?hlw11 ?hcw11 ?c1w11 ?c2w11 ?c3w11 ?_; (case Xw11 => assumption); (case Tw11 => assumption); (case hdw11 => (show _ < 1000; omega)); (case how11 => k_is); (case hcdw11 => k_is); (case hbw11 => exact BindsTo.of_eq rfl); (case hlw11 => exact locs rfl); (case hcw11 => decide); (case c1w11 => rfl); (case c2w11 => rfl); (case c3w11 => rfl); k_whole); walk_at "my inL"; (try dsimp only); (try k_fold))
  k_with "my enterC" => (k_dflt (refine' enterC ?Xw12 ?Tw12 ?hdw12 ?how12 ?hcdw12 ?hbw12 ?hlw12 ?hnw12 ?c1w12 ?c2w12 ?c3w12 ?_; (case Xw12 => assumption); (case Tw12 => assumption); (case hdw12 => (show _ < 1000; omega)); (case how12 => k_is); (case hcdw12 => k_is); (case hbw12 => exact BindsTo.of_eq rfl); (case hlw12 => rfl); (case hnw12 => decide +kernel); (case c1w12 => rfl); (case c2w12 => rfl); (case c3w12 => rfl); k_whole); walk_at "my inC"; (try dsimp only); (try k_fold))
  k_with "my end" => ((try dsimp only); (try k_unfold); (try dsimp only))
  k_with "call builtin:list.extend" => ((show wpAny _ _ (call (Value.builtin "list.extend") [Value.ref _, Value.ref _]) _ _ _); k_dflt (refine' extend_my ?k1w14 ?k2w14 ?k3w14 ?k4w14 ?zw14 ?_; (case k1w14 => k_asm); (case k2w14 => k_asm); (case k3w14 => k_updF); (case k4w14 => k_mem); (case zw14 => (simp only [PySem.sizeLine_eq, List.length_append, List.length_cons, List.length_nil]; omega)); k_whole); walk_at "my inX"; (try k_sweep))
  k_with "my sub" => repeat (first | exact List.forall_mem_nil _ | (refine List.forall_mem_cons.mpr ⟨by k_mem, ?_⟩))
  k_with "binaryOp RShift int int" => (k_dflt (refine' rsh_mid ?aw16 ?bw16 ?cw16 ?dw16 ?_; (case bw16 => with_reducible assumption); (case aw16 => with_reducible assumption); (case cw16 => with_reducible assumption); (case dw16 => with_reducible assumption); k_whole); walk_at "my inJ")
  k_with "binaryOp RShift int int" => ((with_reducible show wpAny _ _ (binaryOp _ (Value.int _ _) (Value.int (_ * _) _)) _ _ _); k_dflt (refine' rsh_hi ?aw17 ?bw17 ?cw17 ?dw17 ?_; (case cw17 => with_reducible assumption); (case aw17 => with_reducible assumption); (case bw17 => with_reducible assumption); (case dw17 => with_reducible assumption); k_whole))
  k_with "binaryOp LShift int int" => ((with_reducible show wpAny _ _ (binaryOp _ (Value.int _ _) (Value.int (_ * _) _)) _ _ _); k_dflt (refine' lsh_hi ?aw18 ?bw18 ?cw18 ?dw18 ?ew18 ?fw18 ?_; (case cw18 => with_reducible assumption); (case aw18 => with_reducible assumption); (case bw18 => with_reducible assumption); (case dw18 => with_reducible assumption); (case ew18 => omega); (case fw18 => with_reducible assumption); k_whole))
  k_with "binaryOp BitXor int int" => (k_dflt (refine' xor_hi ?aw19 ?bw19 ?cw19 ?dw19 ?_; (case cw19 => with_reducible assumption); (case aw19 => with_reducible assumption); (case bw19 => with_reducible assumption); (case dw19 => with_reducible assumption); k_whole))
  k_with "callWith ref" => (k_dflt (refine' callWith_F ?k1w20 ?_; (case k1w20 => exact ⟨_, _, _, _, Fr.keep (by k_asm) _ _ (by with_reducible assumption)⟩); k_whole))
  k_with "FnAt" => (k_dflt (exact ⟨_, _, _, _, Fr.keep (by k_asm) _ _ (by with_reducible assumption)⟩))
  k_with "binaryOp Mult int int" => (k_dflt (refine PyProof.Rows.mul_int ?_ (PySem.IntMulOk.of_right (PySem.intBits_le_64 (by omega) (by omega)))))
  k_with "eval Name" => ((with_reducible show wpAny _ _ (eval (Expr.Name (Str.ofString "n") _) (envX _ _ _ _ _ _)) _ _ _); k_dflt (refine' nameX_FB ?Fw23 ?cw23 ?ow23 ?dw23 ?_ ?aw23 ?bw23; (case aw23 => exact rfl); (case bw23 => exact rfl); (case cw23 => with_reducible assumption); (case Fw23 => k_asm); (case ow23 => with_reducible assumption); (case dw23 => with_reducible assumption); k_whole))
  k_with "eval Name" => ((with_reducible show wpAny _ _ (eval (Expr.Name (Str.ofString "a_digits") _) (envX _ _ _ _ _ _)) _ _ _); k_dflt (refine' nameX_FB ?Fw24 ?cw24 ?ow24 ?dw24 ?_ ?aw24 ?bw24; (case aw24 => exact rfl); (case bw24 => exact rfl); (case cw24 => with_reducible assumption); (case Fw24 => k_asm); (case ow24 => with_reducible assumption); (case dw24 => with_reducible assumption); k_whole))
  k_with "eval Name" => ((with_reducible show wpAny _ _ (eval (Expr.Name (Str.ofString "inner") _) (envX _ _ _ _ _ _)) _ _ _); k_dflt (refine' nameX_FB ?Fw25 ?cw25 ?ow25 ?dw25 ?_ ?aw25 ?bw25; (case aw25 => exact rfl); (case bw25 => exact rfl); (case cw25 => with_reducible assumption); (case Fw25 => k_asm); (case ow25 => with_reducible assumption); (case dw25 => with_reducible assumption); k_whole))
  k_with "call builtin:len" => ((show wpAny _ _ (call (Value.builtin "len") [Value.ref _]) _ _ _); k_dflt (refine' len_my ?k1w26 ?k2w26 ?k3w26 ?_; (case k1w26 => k_asm); (case k2w26 => k_mem); (case k3w26 => (simp only [List.length_replicate]; (have hcl9 := cnt_le ‹_ < 2 ^ 64› ‹0 < _›); omega)); k_whole))
  k_with "binaryOp Mult ref int" => ((show wpAny _ _ (binaryOp Operator.Mult (Value.ref _) (Value.int (Int.fdiv _ _) _)) _ _ _); k_dflt (refine' mul_my ?aw27 ?nw27 ?k1w27 ?k2w27 ?k3w27 ?_; (case aw27 => assumption); (case nw27 => assumption); (case k1w27 => k_asm); (case k2w27 => k_asm); (case k3w27 => k_mem); k_whole); walk_at "my inD"; (try k_sweep))
  k_with "my enterCN" => (k_dflt (refine' enterCN ?news ?Xw28 ?Tw28 ?Sw28 ?hn ?hdw28 ?how28 ?hcdw28 ?hbw28 ?hlw28 ?hndw28 ?c1w28 ?c2w28 ?c3w28 ?_; (case Xw28 => assumption); (case Tw28 => assumption); (case Sw28 => assumption); (case hdw28 => (show _ < 1000; omega)); (case how28 => k_is); (case hcdw28 => k_is); (case hbw28 => exact BindsTo.of_eq rfl); (case hlw28 => rfl); (case hndw28 => decide +kernel); (case c1w28 => rfl); (case c2w28 => rfl); (case c3w28 => rfl)))
  k_with "my isp" => (
      refine isp_of (fun k IH => ?_) _
      intro loose mean mg mb dp un fr gd s Q E g₀ f c' ca ci cn lst doc pm ctv oa oi on vs ms e tn tx tl th x lo hi X T S n1 hd hf hc l1 l2 l3 a1 d1 a2 d2 a3 d3 hl hI hlen hn0 hn1 p1 p2 p3 p4 p5 p6 p7 hret
      k_dflt (refine' enterF ?news ?lim ?hn ?hd ?ho ?hcd ?hb ?hloc ?hce ?c1 ?c2 ?c3 ?_; (case ho => exact hf); (case hcd => exact hc); (case lim => exact T.nolimit.keeps S); (case hd => (show _ < 1000; omega)); (case hb => exact BindsTo.of_eq rfl); (case hloc => exact locs rfl); (case hce => decide); (case c1 => rfl); (case c2 => rfl); (case c3 => rfl))
      case news => exact [(lst, W.listOf vs.toArray e)]
      case hn => (intro p hp; simp only [List.mem_singleton] at hp; subst hp; exact hl)
      intro L' h' F' N' l0
      dsimp only [List.map] at F' N'
      have X' := X.keeps (stays_hide1 S n1)
      have T' := T.keeps (stays_hide1 S n1)
      have b1 := hide1_get (a := lst) a1 (fun q => by rw [q, hl] at a1; cases a1; cases d1)
      have b2 := hide1_get (a := lst) a2 (fun q => by rw [q, hl] at a2; cases a2; cases d2)
      have b3 := hide1_get (a := lst) a3 (fun q => by rw [q, hl] at a3; cases a3; cases d3)
      have bf := hide1_get (a := lst) hf (fun q => by rw [q, hl] at hf; exact fn_ne_list hf)
      k_lt l0
      have q6 := PySem.Flt.Hid.mk p6
      clear p6
      (try dsimp only)
      (try k_fold)
      have hc' := codeRec_hide hl hc
      have x64 : x.toNat < 2 ^ 64 := by omega
      walk_at "my steps"
      · walk_at "my end"
        exact hret _ _ _ _ (fun b o hb ho => Fr.keep (by assumption) b o (hide1_get ho hb)) (News.get (by assumption) (by k_mem)) (by rw [← one_place p1 p2 p3 (by assumption) p5 q6.out]; assumption)
      · show wpAny _ _ (call (Value.ref _) [Value.int _ _, Value.int _ _, Value.int _ _]) _ _ _
        rename _ < k => hj2
        k_dflt (refine' inner_use ?sp ?X ?T ?F ?N ?hd ?hf ?hc l1 l2 l3 ?a1 d1 ?a2 d2 ?a3 d3 ?U hI hlen hn0 hn1 p1 ?p2 ?p3 ?p4 ?p5 ?p6 ?p7 ?_; (case p2 => exact rfl); (case sp => exact IH _ hj2); (case X => k_asm); (case T => k_asm); (case F => k_asm); (case N => k_asm); (case hd => (show dp + 1 + _ < 950; omega)); (case hf => exact Fr.keep (by k_asm) _ _ bf); (case a1 => exact Fr.keep (by k_asm) _ _ b1); (case a2 => exact Fr.keep (by k_asm) _ _ b2); (case a3 => exact Fr.keep (by k_asm) _ _ b3); (case hc => exact hc'.keeps (Fr.keep (by k_asm))); (case U => k_updF); (case p3 => omega); (case p4 => assumption); (case p5 => exact Int.natCast_nonneg _); (case p6 => exact lt_cast (Nat.mod_lt _ (Nat.two_pow_pos _))); (case p7 => exact lt_cast (Nat.lt_of_le_of_lt (Nat.mod_le _ _) x64)))
        intro h' tk' vs1 e1 F' N' hI1
        try dsimp only at N'
        k_sweep
        walk_at "my steps"
        show wpAny _ _ (call (Value.ref _) [Value.int _ _, Value.int _ _, Value.int _ _]) _ _ _
        k_dflt (refine' inner_use (IH _ (sub_lt' hj2 (by assumption))) ?X ?T ?F ?N ?hd ?hf ?hc l1 l2 l3 ?a1 d1 ?a2 d2 ?a3 d3 ?U hI1 ?hl hn0 hn1 ?p1 ?p2 ?p3 ?p4 ?p5 ?p6 ?p7 ?_; (case X => k_asm); (case T => k_asm); (case F => k_asm); (case N => k_asm); (case hd => (show dp + 1 + _ < 950; omega)); (case hf => exact Fr.keep (by k_asm) _ _ bf); (case a1 => exact Fr.keep (by k_asm) _ _ b1); (case a2 => exact Fr.keep (by k_asm) _ _ b2); (case a3 => exact Fr.keep (by k_asm) _ _ b3); (case hc => exact hc'.keeps (Fr.keep (by k_asm))); (case U => k_updF); (case p1 => omega); (case p2 => omega); (case hl => (rw [first_len p1 p2 p3 hj2]; exact hlen)); (case p3 => (rw [first_len p1 p2 p3 hj2]; exact p3)); (case p4 => omega); (case p5 => exact Int.natCast_nonneg _); (case p6 => exact lt_cast (halves (lo := 0) p5 hj2 q6.out p7).2.2.2.2.2.2.1); (case p7 => exact lt_cast (Nat.lt_of_le_of_lt (Nat.div_le_self _ _) x64)))
        intro h' tk' vs2 e2 F' N' hI2
        try dsimp only at N'
        k_sweep
        rw [both_halves p1 p2 p3 (by assumption) hj2] at hI2
        walk_at "my steps"
        exact hret _ _ _ _ (fun b o hb ho => Fr.keep (by assumption) b o (hide1_get ho hb)) (News.get (by assumption) (by k_mem)) hI2)
  w_on
  revert X; k_fill; intro X
  obtain ⟨ps, h44, hps⟩ := ht
  rcases hps with rfl | ⟨c9, rfl, hc9⟩
  · walk_at "my enterCN"
    case news => exact [(44, tabObj #[])]
    case hn => (intro p hp; simp only [List.mem_singleton] at hp; subst hp; exact h44)
    intro L' h' tk' cells' F' N' Y' l0
    dsimp only [List.map] at F' N'
    have sg := stays_hide1 S n44
    have X' := X.keeps sg
    have T' := T.keeps sg
    have C' := C.keeps sg
    k_lt l0
    k_cells Y'
    (try simp only [List.cons_append, List.nil_append] at N')
    (try dsimp only)
    (try k_fold)
    walk_at "my steps"
    · show wpAny _ _ (call (Value.ref _) [Value.int _ _, Value.int _ _, Value.int _ _]) _ _ _
      k_dflt (refine' inner_use (k := cnt a n) (n := n) ?sp ?X ?T ?F ?N ?hd ?hf ?hc ?l1 ?l2 ?l3 ?a1 ?d1 ?a2 ?d2 ?a3 ?d3 ?U ?hI ?hl ?n0 ?n1 ?p1 ?p2 ?p3 ?p4 ?p5 ?p6 ?p7 ?_; (case X => k_asm); (case T => k_asm); (case F => k_asm); (case N => k_asm); (case hd => (show dp + 1 + cnt a n < 950; have := cnt_le ha hn0; omega)); (case hf => exact News.get (by k_asm) (by k_mem)); (case l1 => exact rfl); (case l2 => exact rfl); (case l3 => exact rfl); (case a1 => exact News.get (by k_asm) (by k_mem)); (case d1 => assumption); (case a2 => exact News.get (by k_asm) (by k_mem)); (case d2 => assumption); (case a3 => exact News.get (by k_asm) (by k_mem)); (case d3 => assumption); (case U => k_updF); (case hI => exact ints_rep _ _ _); (case hc => exact codeRec_news (by k_asm) (by k_mem) (by assumption) (by assumption)))
      case hl => (rw [List.length_replicate]; have := cnt_le ha hn0; omega)
      case n0 => exact hn0
      case n1 => exact hn1
      case p1 => decide
      case p2 => (rw [List.length_replicate]; omega)
      case p3 => (rw [List.length_replicate, List.length_replicate]; omega)
      case p4 => exact cnt_pos (fun q => ‹¬ _› (by rw [q]; rfl)) hn0
      case p5 => exact Int.natCast_nonneg _
      case p6 => (have h9 := cnt_fits (a := a) hn0; exact_mod_cast h9)
      case p7 => exact_mod_cast ha
      case sp =>
        (repeat (rename @LT.lt Nat _ _ _ ∧ _ => hh9; clear hh9))
        (rename @LT.lt Nat _ _ _ => hh9; clear hh9)
        as_aux_lemma => walk_at "my isp"
      intro h' tk' vs2 e2 F' N' hI2
      try dsimp only at N'
      k_sweep
      walk_at "my steps"
      all_goals (walk_at "my end")
      exact hret _ _ _ _ _ (keep_but (by assumption)) (TabStep.bare h44 (News.get (by assumption) (by k_mem)) (codeRec_news (qual := q44) (by assumption) (by k_mem) (by assumption) (by assumption)) (News.fresh (by assumption) (by k_mem))) (fresh_hide (News.fresh (by assumption) (by k_mem)) (Nat.ne_of_gt (by omega))) (News.get (by assumption) (by k_mem)) (by rw [← rep_drop (k := cnt a n) (n := n) (x := a) (v := 0)]; simpa using hI2)
    · walk_at "my end"
      have a0 : a = 0 := by omega
      subst a0
      exact hret _ _ _ _ _ (keep_but (by assumption)) (TabStep.bare h44 (News.get (by assumption) (by k_mem)) (codeRec_news (qual := q44) (by assumption) (by k_mem) (by assumption) (by assumption)) (News.fresh (by assumption) (by k_mem))) (fresh_hide (News.fresh (by assumption) (by k_mem)) (Nat.ne_of_gt (by omega))) (News.get (by assumption) (by k_mem)) (by rw [cnt_zero hn0]; exact IntsAre.nil)
  · walk_at "my enterCN"
    case news => exact [(44, tabObj #[rawInt 73, rawInt 4, .ref c9])]
    case hn => (intro p hp; simp only [List.mem_singleton] at hp; subst hp; exact h44)
    intro L' h' tk' cells' F' N' Y' l0
    dsimp only [List.map] at F' N'
    have sg := stays_hide1 S n44
    have X' := X.keeps sg
    have T' := T.keeps sg
    have C' := C.keeps sg
    have hc9' := codeRec_hideT ⟨_, h44, .inr ⟨c9, rfl, hc9⟩⟩ hc9
    k_lt l0
    k_cells Y'
    (try simp only [List.cons_append, List.nil_append] at N')
    (try dsimp only)
    (try k_fold)
    walk_at "my steps"
    · show wpAny _ _ (call (Value.ref _) [Value.int _ _, Value.int _ _, Value.int _ _]) _ _ _
      k_dflt (refine' inner_use (k := cnt a n) (n := n) ?sp ?X ?T ?F ?N ?hd ?hf ?hc ?l1 ?l2 ?l3 ?a1 ?d1 ?a2 ?d2 ?a3 ?d3 ?U ?hI ?hl ?n0 ?n1 ?p1 ?p2 ?p3 ?p4 ?p5 ?p6 ?p7 ?_; (case X => k_asm); (case T => k_asm); (case F => k_asm); (case N => k_asm); (case hd => (show dp + 1 + cnt a n < 950; have := cnt_le ha hn0; omega)); (case hf => exact News.get (by k_asm) (by k_mem)); (case l1 => exact rfl); (case l2 => exact rfl); (case l3 => exact rfl); (case a1 => exact News.get (by k_asm) (by k_mem)); (case d1 => assumption); (case a2 => exact News.get (by k_asm) (by k_mem)); (case d2 => assumption); (case a3 => exact News.get (by k_asm) (by k_mem)); (case d3 => assumption); (case U => k_updF); (case hI => exact ints_rep _ _ _); (case hc => exact hc9'.keeps (Fr.keep (by k_asm))))
      case hl => (rw [List.length_replicate]; have := cnt_le ha hn0; omega)
      case n0 => exact hn0
      case n1 => exact hn1
      case p1 => decide
      case p2 => (rw [List.length_replicate]; omega)
      case p3 => (rw [List.length_replicate, List.length_replicate]; omega)
      case p4 => exact cnt_pos (fun q => ‹¬ _› (by rw [q]; rfl)) hn0
      case p5 => exact Int.natCast_nonneg _
      case p6 => (have h9 := cnt_fits (a := a) hn0; exact_mod_cast h9)
      case p7 => exact_mod_cast ha
      case sp =>
        (repeat (rename @LT.lt Nat _ _ _ ∧ _ => hh9; clear hh9))
        as_aux_lemma => walk_at "my isp"
      intro h' tk' vs2 e2 F' N' hI2
      try dsimp only at N'
      k_sweep
      walk_at "my steps"
      all_goals (walk_at "my end")
      exact hret _ _ _ _ _ (keep_but (by assumption)) (TabStep.same h44 (News.get (by assumption) (by k_mem)) (hc9'.keeps (Fr.keep (by assumption)))) (fresh_hide (News.fresh (by assumption) (by k_mem)) (Nat.ne_of_gt (by omega))) (News.get (by assumption) (by k_mem)) (by rw [← rep_drop (k := cnt a n) (n := n) (x := a) (v := 0)]; simpa using hI2)
    · walk_at "my end"
      have a0 : a = 0 := by omega
      subst a0
      exact hret _ _ _ _ _ (keep_but (by assumption)) (TabStep.same h44 (News.get (by assumption) (by k_mem)) (hc9'.keeps (Fr.keep (by assumption)))) (fresh_hide (News.fresh (by assumption) (by k_mem)) (Nat.ne_of_gt (by omega))) (News.get (by assumption) (by k_mem)) (by rw [cnt_zero hn0]; exact IntsAre.nil)
end
section
theorem d2i_call (w : World) (loose : List Str) (mean : ExcName → Option Value) (mg mb : Str → Option Value) (dp un : Nat) (fr : Option (List Env)) (gd : Option (List Code)) (s : Shared)
    (Q E : Value → Shared → Prop) (g₀ : Heap) (X : (Mine.hk.heap_1 w.params).In g₀) (T : Top topProg loose mean mg mb g₀) (S : g₀.StaysIn s.heap) (C : CodeHd g₀ 55 51) (n51 : g₀.get? 51 = none) (hd : dp < 800)
    (ht : Tab51 s.heap)
    (d : Addr) (vs : List Value) (ms : List Int) (n : Nat) (tn : Tok) (hL : s.heap.IsList d vs.toArray) (hI : IntsAre vs ms) (hlen : ms.length ≤ 100) (hn0 : 0 < n) (hn1 : n ≤ 64) (hnn : ∀ d ∈ ms, 0 ≤ d) (hv : dv n ms < 2 ^ 64)
    (hret : ∀ h' tk' t, (∀ b o, b ≠ 51 → s.heap.get? b = some o → h'.get? b = some o) → Step51 s.heap h' → Q (.int (dv n ms) t) { s with heap := h', toks := tk' }) :
    wpAny (model PySem.Challenge.rw_rl0058_01.row.prog w) (AA dp fr gd un) (call (.ref 56) [.ref d, .int n tn]) Q E s := by
  k_with_none
  k_with "my fold" => ((try (with_reducible refine GTurn.letG ?_; intro gk)); (try (show wpAny _ _ _ _ _ _; k_fold)))
  k_with "my steps" => (walk_at "my fold"; repeat' (first | (k_unfold; (try dsimp only)) | (k_end; wrow_close) | walk1 | (dsimp only; walk1) | (leave1; walk_say "STEP leave1"; try dsimp only) | fail "no step"))
  k_with "my pick" => first | with_reducible assumption | with_reducible exact And.left (by assumption) | with_reducible exact And.left (And.right (by assumption)) | with_reducible exact And.left (And.right (And.right (by assumption))) | with_reducible exact And.left (And.right (And.right (And.right (by assumption)))) | with_reducible exact And.left (And.right (And.right (And.right (And.right (by assumption))))) | with_reducible exact And.left (And.right (And.right (And.right (And.right (And.right (by assumption)))))) | with_reducible exact And.left (And.right (And.right (And.right (And.right (And.right (And.right (by assumption))))))) | with_reducible exact And.left (And.right (And.right (And.right (And.right (And.right (And.right (And.right (by assumption)))))))) | with_reducible exact And.left (And.right (And.right (And.right (And.right (And.right (And.right (And.right (And.right (by assumption))))))))) | with_reducible exact And.left (And.right (And.right (And.right (And.right (And.right (And.right (And.right (And.right (And.right (by assumption)))))))))) | with_reducible exact And.left (And.right (And.right (And.right (And.right (And.right (And.right (And.right (And.right (And.right (And.right (by assumption)))))))))))
  k_with "my ne" => first | exact Nat.ne_of_gt (by walk_at "my pick") | exact Nat.ne_of_lt (by walk_at "my pick") | walk_at "my pick" | exact Ne.symm (by walk_at "my pick")
  k_with "my kn" => (first | walk_at "my ne" | omega)
  k_with "my kne" => (refine neN ?_; (try dsimp only); walk_at "my kn")
  k_with "eval Name" => (k_here; k_dflt (refine' nameX_L ?Fw6 ?vw6 ?_ ?aw6 ?bw6; (case Fw6 => k_asm); (case aw6 => rfl); (case bw6 => rfl); (case vw6 => exact Eq.refl (some _)); k_whole))
  k_with "execs cons" => ((show wpAny _ _ _ _ _ _); k_fold)
  k_with "call builtin:max" => ((with_reducible show wpAny _ _ (call (Value.builtin "max") [Value.int _ _, Value.int _ _, Value.int _ _]) _ _ _); (with_unfolding_all refine' max3_N ?k0w8 ?k1w8 ?k2w8 ?_; (case k0w8 => rfl); (case k1w8 => k_asm); (case k2w8 => k_asm); k_whole); walk_at "my in5"; (try k_sweep))
  k_with "call builtin:min" => ((with_reducible show wpAny _ _ (call (Value.builtin "min") [Value.int _ _, Value.int _ _, Value.int _ _]) _ _ _); (with_unfolding_all refine' min3_N ?k0w9 ?k1w9 ?k2w9 ?_; (case k0w9 => rfl); (case k1w9 => k_asm); (case k2w9 => k_asm); k_whole); walk_at "my in5"; (try k_sweep))
  k_with "call builtin:list.append" => ((show wpAny _ _ (call (Value.builtin "list.append") [Value.ref _, _]) _ _ _); k_dflt (refine' append_K ?k1w10 ?k2w10 ?k3w10 ?_ ?zw10; (case k1w10 => k_asm); (case k2w10 => k_asm); (case k3w10 => k_upd); (case zw10 => size_fits); k_whole); walk_at "my in3"; (try k_sweep))
  k_with "my enter" => (k_dflt (refine' enter ?Xw11 ?Tw11 ?hdw11 ?how11 ?hcdw11 ?hbw11 ?hlw11 ?hcw11 ?c1w11 ?c2w11 ?c3w11 ?_; (case Xw11 => assumption); (case Tw11 => assumption); (case hdw11 => (show _ < 1000; omega)); (case how11 => k_is); (case hcdw11 => k_is); (case hbw11 => exact BindsTo.of_eq rfl); (case hlw11 => exact locs rfl); (case hcw11 => decide); (case c1w11 => rfl); (case c2w11 => rfl); (case c3w11 => rfl); k_whole); walk_at "my inL"; (try dsimp only); (try k_fold))
  k_with "my enterC" => (k_dflt (refine' enterC ?Xw12 ?Tw12 ?hdw12 ?how12 ?hcdw12 ?hbw12 ?hlw12 ?hnw12 ?c1w12 ?c2w12 ?c3w12 ?_; (case Xw12 => assumption); (case Tw12 => assumption); (case hdw12 => (show _ < 1000; omega)); (case how12 => k_is); (case hcdw12 => k_is); (case hbw12 => exact BindsTo.of_eq rfl); (case hlw12 => rfl); (case hnw12 => decide +kernel); (case c1w12 => rfl); (case c2w12 => rfl); (case c3w12 => rfl); k_whole); walk_at "my inC"; (try dsimp only); (try k_fold))
  k_with "my end" => ((try dsimp only); (try k_unfold); (try dsimp only))
  k_with "call builtin:list.extend" => ((show wpAny _ _ (call (Value.builtin "list.extend") [Value.ref _, Value.ref _]) _ _ _); k_dflt (refine' extend_my ?k1w14 ?k2w14 ?k3w14 ?k4w14 ?zw14 ?_; (case k1w14 => k_asm); (case k2w14 => k_asm); (case k3w14 => k_updF); (case k4w14 => k_mem); (case zw14 => (simp only [PySem.sizeLine_eq, List.length_append, List.length_cons, List.length_nil]; omega)); k_whole); walk_at "my inX"; (try k_sweep))
  k_with "my sub" => repeat (first | exact List.forall_mem_nil _ | (refine List.forall_mem_cons.mpr ⟨by k_mem, ?_⟩))
  k_with "binaryOp RShift int int" => (k_dflt (refine' rsh_mid ?aw16 ?bw16 ?cw16 ?dw16 ?_; (case bw16 => with_reducible assumption); (case aw16 => with_reducible assumption); (case cw16 => with_reducible assumption); (case dw16 => with_reducible assumption); k_whole); walk_at "my inJ")
  k_with "binaryOp LShift int int" => ((with_reducible show wpAny _ _ (binaryOp _ (Value.int _ _) (Value.int (_ * _) _)) _ _ _); k_dflt (refine' lsh_d ?aw17 ?dw17 ?bw17 ?ew17 ?fw17 ?_; (case aw17 => with_reducible assumption); (case bw17 => with_reducible assumption); (case dw17 => with_reducible assumption); (case ew17 => omega); (case fw17 => with_reducible assumption); k_whole))
  k_with "callWith ref" => (k_dflt (refine' callWith_F ?k1w18 ?_; (case k1w18 => exact ⟨_, _, _, _, Fr.keep (by k_asm) _ _ (by with_reducible assumption)⟩); k_whole))
  k_with "FnAt" => (k_dflt (exact ⟨_, _, _, _, Fr.keep (by k_asm) _ _ (by with_reducible assumption)⟩))
  k_with "binaryOp Mult int int" => (k_dflt (refine PyProof.Rows.mul_int ?_ (PySem.IntMulOk.of_right (PySem.intBits_le_64 (by omega) (by omega)))))
  k_with "eval Name" => ((with_reducible show wpAny _ _ (eval (Expr.Name (Str.ofString "n") _) (envX _ _ _ _ _ _)) _ _ _); k_dflt (refine' nameX_FB ?Fw21 ?cw21 ?ow21 ?dw21 ?_ ?aw21 ?bw21; (case aw21 => exact rfl); (case bw21 => exact rfl); (case cw21 => with_reducible assumption); (case Fw21 => k_asm); (case ow21 => with_reducible assumption); (case dw21 => with_reducible assumption); k_whole))
  k_with "eval Name" => ((with_reducible show wpAny _ _ (eval (Expr.Name (Str.ofString "digits") _) (envX _ _ _ _ _ _)) _ _ _); k_dflt (refine' nameX_FB ?Fw22 ?cw22 ?ow22 ?dw22 ?_ ?aw22 ?bw22; (case aw22 => exact rfl); (case bw22 => exact rfl); (case cw22 => with_reducible assumption); (case Fw22 => k_asm); (case ow22 => with_reducible assumption); (case dw22 => with_reducible assumption); k_whole))
  k_with "eval Name" => ((with_reducible show wpAny _ _ (eval (Expr.Name (Str.ofString "inner") _) (envX _ _ _ _ _ _)) _ _ _); k_dflt (refine' nameX_FB ?Fw23 ?cw23 ?ow23 ?dw23 ?_ ?aw23 ?bw23; (case aw23 => exact rfl); (case bw23 => exact rfl); (case cw23 => with_reducible assumption); (case Fw23 => k_asm); (case ow23 => with_reducible assumption); (case dw23 => with_reducible assumption); k_whole))
  k_with "my enterCN" => (k_dflt (refine' enterCN ?news ?Xw24 ?Tw24 ?Sw24 ?hn ?hdw24 ?how24 ?hcdw24 ?hbw24 ?hlw24 ?hndw24 ?c1w24 ?c2w24 ?c3w24 ?_; (case Xw24 => assumption); (case Tw24 => assumption); (case Sw24 => assumption); (case hdw24 => (show _ < 1000; omega)); (case how24 => k_is); (case hcdw24 => k_is); (case hbw24 => exact BindsTo.of_eq rfl); (case hlw24 => rfl); (case hndw24 => decide +kernel); (case c1w24 => rfl); (case c2w24 => rfl); (case c3w24 => rfl)))
  k_with "my dsp" => (
      refine dsp_of (fun k IH => ?_) _
      intro loose mean mg mb dp un fr gd s Q E g₀ f c' ca ci cn lst doc pm ctv oa oi on vs ms tn tl th lo hi X T S hd hf hc l1 l2 l3 a1 d1 a2 d2 a3 d3 hl hI hlen hn0 hn1 p1 p2 p3 p4 p5 p6 hret
      k_dflt (refine' enterF ?news ?lim ?hn ?hd ?ho ?hcd ?hb ?hloc ?hce ?c1 ?c2 ?c3 ?_; (case ho => exact hf); (case hcd => exact hc); (case lim => exact T.nolimit.keeps S); (case hd => (show _ < 1000; omega)); (case hb => exact BindsTo.of_eq rfl); (case hloc => exact locs rfl); (case hce => decide); (case c1 => rfl); (case c2 => rfl); (case c3 => rfl))
      case news => exact []
      case hn => (intro p hp; cases hp)
      intro L' h' F' N' l0
      replace F' : Fr s.heap L' h' _ := F'
      replace N' : News s.heap L' h' [] := N'
      have X' := X.keeps S
      have T' := T.keeps S
      (try dsimp only)
      (try k_fold)
      walk_at "my steps"
      · walk_at "my end"
        rw [one_digit' p1 p2 p3 (by assumption)]
        exact hret _ _ _ (Fr.keep (by assumption))
      · show wpAny _ _ (call (Value.ref _) [Value.int _ _, Value.int _ _]) _ _ _
        rename _ < k => hj2
        have hq := half_hi p1 p2 p3 p5 hj2 p6
        have hq1 := hq.1
        have hq2 := hq.2
        have hq3 := half_lo p1 p2 p3 p5 hj2 p6
        k_dflt (refine' dinner_use (IH _ (sub_lt' hj2 (by assumption))) ?X ?T ?F ?N ?hd ?hf ?hc l1 l2 l3 ?a1 d1 ?a2 d2 ?a3 d3 hl hI hlen hn0 hn1 ?p1 ?p2 p3 (sub_pos' hj2) p5 hq2 ?_; (case X => k_asm); (case T => k_asm); (case F => k_asm); (case N => k_asm); (case hd => (show dp + 1 + _ < 950; omega)); (case hf => exact Fr.keep (by k_asm) _ _ hf); (case a1 => exact Fr.keep (by k_asm) _ _ a1); (case a2 => exact Fr.keep (by k_asm) _ _ a2); (case a3 => exact Fr.keep (by k_asm) _ _ a3); (case hc => exact hc.keeps (Fr.keep (by k_asm))); (case p1 => omega); (case p2 => omega))
        intro h' tk' t1 F' N'
        k_sweep
        walk_at "my steps"
        show wpAny _ _ (call (Value.ref _) [Value.int _ _, Value.int _ _]) _ _ _
        k_dflt (refine' dinner_use (IH _ hj2) ?X ?T ?F ?N ?hd ?hf ?hc l1 l2 l3 ?a1 d1 ?a2 d2 ?a3 d3 hl hI hlen hn0 hn1 p1 ?p2 ?p3 ?p4 p5 hq3 ?_; (case X => k_asm); (case T => k_asm); (case F => k_asm); (case N => k_asm); (case hd => (show dp + 1 + _ < 950; omega)); (case hf => exact Fr.keep (by k_asm) _ _ hf); (case a1 => exact Fr.keep (by k_asm) _ _ a1); (case a2 => exact Fr.keep (by k_asm) _ _ a2); (case a3 => exact Fr.keep (by k_asm) _ _ a3); (case hc => exact hc.keeps (Fr.keep (by k_asm))); (case p2 => exact rfl); (case p3 => omega); (case p4 => assumption))
        intro h' tk' t1 F' N'
        k_sweep
        walk_at "my steps"
        walk_at "my end"
        rw [two_halves p1 p2 p3 p5 hj2]
        exact hret _ _ _ (Fr.keep (by assumption)))
  w_on
  revert X; k_fill; intro X
  obtain ⟨ps, h51, hps⟩ := ht
  have hL' : (hideAll s.heap [51]).IsList d vs.toArray := isList_hide h51 hL
  rcases hps with rfl | ⟨c9, rfl, hc9⟩
  · walk_at "my enterCN"
    case news => exact [(51, tabObj #[])]
    case hn => (intro p hp; simp only [List.mem_singleton] at hp; subst hp; exact h51)
    intro L' h' tk' cells' F' N' Y' l0
    dsimp only [List.map] at F' N'
    have sg := stays_hide1 S n51
    have X' := X.keeps sg
    have T' := T.keeps sg
    have C' := C.keeps sg
    k_lt l0
    k_cells Y'
    (try simp only [List.cons_append, List.nil_append] at N')
    (try dsimp only)
    (try k_fold)
    walk_at "my steps"
    · show wpAny _ _ (call (Value.ref _) [Value.int _ _, Value.int _ _]) _ _ _
      k_dflt (refine' dinner_use (k := ms.length) (n := n) ?sp ?X ?T ?F ?N ?hd ?hf ?hc ?l1 ?l2 ?l3 ?a1 ?d1 ?a2 ?d2 ?a3 ?d3 ?U hI ?hl ?n0 ?n1 ?p1 ?p2 ?p3 ?p4 hnn ?p6 ?_; (case X => k_asm); (case T => k_asm); (case F => k_asm); (case N => k_asm); (case hd => (show dp + 1 + ms.length < 950; omega)); (case hf => exact News.get (by k_asm) (by k_mem)); (case l1 => exact rfl); (case l2 => exact rfl); (case l3 => exact rfl); (case a1 => exact News.get (by k_asm) (by k_mem)); (case d1 => assumption); (case a2 => exact News.get (by k_asm) (by k_mem)); (case d2 => assumption); (case a3 => exact News.get (by k_asm) (by k_mem)); (case d3 => assumption); (case U => assumption); (case hc => exact codeRec_news (by k_asm) (by k_mem) (by assumption) (by assumption)))
      case hl => omega
      case n0 => exact hn0
      case n1 => exact hn1
      case p1 => decide
      case p2 => omega
      case p3 => omega
      case p4 => omega
      case p6 => (rw [show (Int.toNat 0) = 0 from rfl, slc_all]; exact hv)
      case sp =>
        (repeat (rename @LT.lt Nat _ _ _ ∧ _ => hh9; clear hh9))
        (rename @LT.lt Nat _ _ _ => hh9; clear hh9)
        (rename @LT.lt Nat _ _ _ => hh9; clear hh9)
        as_aux_lemma => walk_at "my dsp"
      intro h' tk' t' F' N'
      k_sweep
      walk_at "my steps"
      all_goals (walk_at "my end")
      rw [show (Int.toNat 0) = 0 from rfl, slc_all]
      exact hret _ _ _ (keep_but (by assumption)) (TabStep.bare h51 (News.get (by assumption) (by k_mem)) (codeRec_news (qual := q51) (by assumption) (by k_mem) (by assumption) (by assumption)) (News.fresh (by assumption) (by k_mem)))
    · walk_at "my end"
      have m0 : ms = [] := List.eq_nil_of_length_eq_zero (by omega)
      subst m0
      exact hret _ _ _ (keep_but (by assumption)) (TabStep.bare h51 (News.get (by assumption) (by k_mem)) (codeRec_news (qual := q51) (by assumption) (by k_mem) (by assumption) (by assumption)) (News.fresh (by assumption) (by k_mem)))
  · walk_at "my enterCN"
    case news => exact [(51, tabObj #[rawInt 88, rawInt 4, .ref c9])]
    case hn => (intro p hp; simp only [List.mem_singleton] at hp; subst hp; exact h51)
    intro L' h' tk' cells' F' N' Y' l0
    dsimp only [List.map] at F' N'
    have sg := stays_hide1 S n51
    have X' := X.keeps sg
    have T' := T.keeps sg
    have C' := C.keeps sg
    have hc9' := codeRec_hideT ⟨_, h51, .inr ⟨c9, rfl, hc9⟩⟩ hc9
    k_lt l0
    k_cells Y'
    (try simp only [List.cons_append, List.nil_append] at N')
    (try dsimp only)
    (try k_fold)
    walk_at "my steps"
    · show wpAny _ _ (call (Value.ref _) [Value.int _ _, Value.int _ _]) _ _ _
      k_dflt (refine' dinner_use (k := ms.length) (n := n) ?sp ?X ?T ?F ?N ?hd ?hf ?hc ?l1 ?l2 ?l3 ?a1 ?d1 ?a2 ?d2 ?a3 ?d3 ?U hI ?hl ?n0 ?n1 ?p1 ?p2 ?p3 ?p4 hnn ?p6 ?_; (case X => k_asm); (case T => k_asm); (case F => k_asm); (case N => k_asm); (case hd => (show dp + 1 + ms.length < 950; omega)); (case hf => exact News.get (by k_asm) (by k_mem)); (case l1 => exact rfl); (case l2 => exact rfl); (case l3 => exact rfl); (case a1 => exact News.get (by k_asm) (by k_mem)); (case d1 => assumption); (case a2 => exact News.get (by k_asm) (by k_mem)); (case d2 => assumption); (case a3 => exact News.get (by k_asm) (by k_mem)); (case d3 => assumption); (case U => assumption); (case hc => exact hc9'.keeps (Fr.keep (by k_asm))))
      case hl => omega
      case n0 => exact hn0
      case n1 => exact hn1
      case p1 => decide
      case p2 => omega
      case p3 => omega
      case p4 => omega
      case p6 => (rw [show (Int.toNat 0) = 0 from rfl, slc_all]; exact hv)
      case sp =>
        (repeat (rename @LT.lt Nat _ _ _ ∧ _ => hh9; clear hh9))
        as_aux_lemma => walk_at "my dsp"
      intro h' tk' t' F' N'
      k_sweep
      walk_at "my steps"
      all_goals (walk_at "my end")
      rw [show (Int.toNat 0) = 0 from rfl, slc_all]
      exact hret _ _ _ (keep_but (by assumption)) (TabStep.same h51 (News.get (by assumption) (by k_mem)) (hc9'.keeps (Fr.keep (by assumption))))
    · walk_at "my end"
      have m0 : ms = [] := List.eq_nil_of_length_eq_zero (by omega)
      subst m0
      exact hret _ _ _ (keep_but (by assumption)) (TabStep.same h51 (News.get (by assumption) (by k_mem)) (hc9'.keeps (Fr.keep (by assumption))))
end
section
theorem d2n_call (w : World) (loose : List Str) (mean : ExcName → Option Value) (mg mb : Str → Option Value) (dp un : Nat) (fr : Option (List Env)) (gd : Option (List Code)) (s : Shared)
    (Q E : Value → Shared → Prop) (X : (Mine.hk.heap_1 w.params).In s.heap) (T : Top topProg loose mean mg mb s.heap) (hd : dp < 900)
    (a b n : Int) (ta tb tn : Tok) (ha0 : 0 ≤ a) (ha : a < 18446744073709551616) (hb : 0 < b) (hbs : b < 4294967296) (hbits : (Builtin.Int.intBits a : Int) - n ≤ 4000)
    (hret : ∀ D h' tk' t1 t2, (∀ b o, s.heap.get? b = some o → h'.get? b = some o) → s.heap.get? D = none → h'.get? D = some ({ cls := .type "tuple", data := .seq #[.int (a.fdiv b) t1, .int (a.fmod b) t2] }) → Q (.ref D) { s with heap := h', toks := tk' }) :
    wpAny (model PySem.Challenge.rw_rl0058_01.row.prog w) (AA dp fr gd un) (call (.ref 35) [.int a ta, .int b tb, .int n tn]) Q E s := by
  k_with_none
  k_with "my fold" => ((try (with_reducible refine GTurn.letG ?_; intro gk)); (try (show wpAny _ _ _ _ _ _; k_fold)))
  k_with "my steps" => (walk_at "my fold"; repeat' (first | (k_unfold; (try dsimp only)) | (k_end; wrow_close) | walk1 | (dsimp only; walk1) | (leave1; walk_say "STEP leave1"; try dsimp only) | fail "no step"))
  k_with "my pick" => first | with_reducible assumption | with_reducible exact And.left (by assumption) | with_reducible exact And.left (And.right (by assumption)) | with_reducible exact And.left (And.right (And.right (by assumption))) | with_reducible exact And.left (And.right (And.right (And.right (by assumption)))) | with_reducible exact And.left (And.right (And.right (And.right (And.right (by assumption))))) | with_reducible exact And.left (And.right (And.right (And.right (And.right (And.right (by assumption)))))) | with_reducible exact And.left (And.right (And.right (And.right (And.right (And.right (And.right (by assumption))))))) | with_reducible exact And.left (And.right (And.right (And.right (And.right (And.right (And.right (And.right (by assumption)))))))) | with_reducible exact And.left (And.right (And.right (And.right (And.right (And.right (And.right (And.right (And.right (by assumption))))))))) | with_reducible exact And.left (And.right (And.right (And.right (And.right (And.right (And.right (And.right (And.right (And.right (by assumption)))))))))) | with_reducible exact And.left (And.right (And.right (And.right (And.right (And.right (And.right (And.right (And.right (And.right (And.right (by assumption)))))))))))
  k_with "my ne" => first | exact Nat.ne_of_gt (by walk_at "my pick") | exact Nat.ne_of_lt (by walk_at "my pick") | walk_at "my pick" | exact Ne.symm (by walk_at "my pick")
  k_with "my kn" => (first | walk_at "my ne" | omega)
  k_with "my kne" => (refine neN ?_; (try dsimp only); walk_at "my kn")
  k_with "eval Name" => (k_here; k_dflt (refine' nameX_L ?Fw6 ?vw6 ?_ ?aw6 ?bw6; (case Fw6 => k_asm); (case aw6 => rfl); (case bw6 => rfl); (case vw6 => exact Eq.refl (some _)); k_whole))
  k_with "execs cons" => ((show wpAny _ _ _ _ _ _); k_fold)
  k_with "call builtin:max" => ((with_reducible show wpAny _ _ (call (Value.builtin "max") [Value.int _ _, Value.int _ _, Value.int _ _]) _ _ _); (with_unfolding_all refine' max3_N ?k0w8 ?k1w8 ?k2w8 ?_; (case k0w8 => rfl); (case k1w8 => k_asm); (case k2w8 => k_asm); k_whole); walk_at "my in5"; (try k_sweep))
  k_with "call builtin:min" => ((with_reducible show wpAny _ _ (call (Value.builtin "min") [Value.int _ _, Value.int _ _, Value.int _ _]) _ _ _); (with_unfolding_all refine' min3_N ?k0w9 ?k1w9 ?k2w9 ?_; (case k0w9 => rfl); (case k1w9 => k_asm); (case k2w9 => k_asm); k_whole); walk_at "my in5"; (try k_sweep))
  k_with "call builtin:list.append" => ((show wpAny _ _ (call (Value.builtin "list.append") [Value.ref _, _]) _ _ _); k_dflt (refine' append_K ?k1w10 ?k2w10 ?k3w10 ?_ ?zw10; (case k1w10 => k_asm); (case k2w10 => k_asm); (case k3w10 => k_upd); (case zw10 => size_fits); k_whole); walk_at "my in3"; (try k_sweep))
  k_with "my enter" => (k_dflt (refine' enter ?Xw11 ?Tw11 ?hdw11 ?how11 ?hcdw11 ?hbw11 ?hlw11 ?hcw11 ?c1w11 ?c2w11 ?c3w11 ?_; (case Xw11 => assumption); (case Tw11 => assumption); (case hdw11 => (show _ < 1000; omega)); (case how11 => k_is); (case hcdw11 => k_is); (case hbw11 => exact BindsTo.of_eq rfl); (case hlw11 => exact locs rfl); (case hcw11 => decide); (case c1w11 => rfl); (case c2w11 => rfl); (case c3w11 => rfl); k_whole); walk_at "my inL"; (try dsimp only); (try k_fold))
  k_with "my enterC" => (k_dflt (refine' enterC ?Xw12 ?Tw12 ?hdw12 ?how12 ?hcdw12 ?hbw12 ?hlw12 ?hnw12 ?c1w12 ?c2w12 ?c3w12 ?_; (case Xw12 => assumption); (case Tw12 => assumption); (case hdw12 => (show _ < 1000; omega)); (case how12 => k_is); (case hcdw12 => k_is); (case hbw12 => exact BindsTo.of_eq rfl); (case hlw12 => rfl); (case hnw12 => decide +kernel); (case c1w12 => rfl); (case c2w12 => rfl); (case c3w12 => rfl); k_whole); walk_at "my inC"; (try dsimp only); (try k_fold))
  k_with "my end" => ((try dsimp only); (try k_unfold); (try dsimp only))
  k_with "call builtin:list.extend" => ((show wpAny _ _ (call (Value.builtin "list.extend") [Value.ref _, Value.ref _]) _ _ _); k_dflt (refine' extend_my ?k1w14 ?k2w14 ?k3w14 ?k4w14 ?zw14 ?_; (case k1w14 => k_asm); (case k2w14 => k_asm); (case k3w14 => k_updF); (case k4w14 => k_mem); (case zw14 => (simp only [PySem.sizeLine_eq, List.length_append, List.length_cons, List.length_nil]; omega)); k_whole); walk_at "my inX"; (try k_sweep))
  k_with "my sub" => repeat (first | exact List.forall_mem_nil _ | (refine List.forall_mem_cons.mpr ⟨by k_mem, ?_⟩))
  w_on
  revert X; k_fill; intro X
  walk_at "my enter"
  walk_at "my steps"
  show wpAny _ _ (call (.builtin "divmod") [.int a _, .int b _]) _ _ _
  refine divmod_N (by assumption) (by assumption) (by omega) ?_ (.inl (PyProof.noPylong_of_log2 ?_))
  · intro h' F' N'
    walk_at "my steps"
    all_goals (walk_at "my end")
    exact hret _ _ _ _ _ (Fr.keep (by assumption)) (News.fresh (by assumption) (by k_mem)) (News.get (by assumption) (by k_mem))
  · refine Nat.lt_of_lt_of_le (m := 64) ?_ (by decide)
    have : b.natAbs < 2 ^ 64 := by omega
    rcases Nat.eq_zero_or_pos b.natAbs with h | h
    · rw [h]; decide
    · exact (Nat.log2_lt (by omega)).mpr this
end
section
open PySem PySem.W PyProof.Rows PySem.Calls PySem.Spec
set_option Elab.async false
set_option maxRecDepth 100000
set_option maxHeartbeats 1000000
section
noncomputable def AllNe (d : Nat) : List (Addr × Obj) → Prop
  | [] => True
  | p :: r => @Ne Nat p.1 d ∧ AllNe d r
theorem allNe_of {d : Addr} {l : List (Addr × Obj)} (h : ∀ p ∈ l, p.1 ≠ d) : AllNe d l := by
  induction l with
  | nil => exact trivial
  | cons p r ih => exact ⟨h p List.mem_cons_self, ih fun q hq => h q (List.mem_cons_of_mem _ hq)⟩
theorem allNe_mem {d : Addr} {l : List (Addr × Obj)} (h : AllNe d l) : ∀ p ∈ l, p.1 ≠ d := by
  induction l with
  | nil => intro p hp; cases hp
  | cons q r ih =>
    intro p hp
    rcases List.mem_cons.mp hp with e | hp
    · rw [e]; exact h.1
    · exact ih h.2 p hp
theorem news_new {h₀ h h' : Heap} {L D : Addr} {m : Str → Option Value} {news : List (Addr × Obj)} {o : Obj} (F : Fr h₀ L h m) (N : News h₀ L h news) (hk : ∀ b o, h.get? b = some o → h'.get? b = some o) (hD : h.get? D = none) (ho : h'.get? D = some o) :
    News h₀ L h' ((D, o) :: news) ∧ AllNe D news := by
  refine ⟨fun p hp => ?_, allNe_of fun p hp e => ?_⟩
  · rcases List.mem_cons.mp hp with rfl | hp
    · refine ⟨ho, fun e => ?_, ?_⟩
      · obtain ⟨ol, _, _, e2, _⟩ := F.ns
        rw [← e, hD] at e2; cases e2
      · cases e : h₀.get? D with
        | none => rfl
        | some o' => have := F.keep D o' e; rw [hD] at this; cases this
    · exact ⟨hk _ _ (N p hp).1, (N p hp).2⟩
  · have := (N p hp).1; rw [e, hD] at this; cases this
/-- the written part, and the two code tables -/
structure Gd (w : World) (loose : List Str) (mean : ExcName → Option Value) (mg mb : Str → Option Value) (g₀ : Heap) : Prop where
  X : (Mine.hk.heap_1 w.params).In g₀
  T : Top topProg loose mean mg mb g₀
  C48 : CodeHd g₀ 48 44
  C55 : CodeHd g₀ 55 51
  n44 : g₀.get? 44 = none
  n51 : g₀.get? 51 = none
noncomputable abbrev tab44 (c : Addr) : Obj := tabObj #[rawInt 73, rawInt 4, .ref c]
noncomputable abbrev tab51 (c : Addr) : Obj := tabObj #[rawInt 88, rawInt 4, .ref c]
/-- the table of _int2digits is filled -/
noncomputable def Full44 (h : Heap) : Prop := ∃ c, h.get? 44 = some (tab44 c) ∧ h.CodeRec (.ref c) q44
noncomputable def Full51 (h : Heap) : Prop := ∃ c, h.get? 51 = some (tab51 c) ∧ h.CodeRec (.ref c) q51
theorem Full44.keeps {h h' : Heap} (x : Full44 h) (hk : ∀ b o, h.get? b = some o → h'.get? b = some o) : Full44 h' := let ⟨c, e, r⟩ := x; ⟨c, hk _ _ e, r.keeps hk⟩
theorem Full51.keeps {h h' : Heap} (x : Full51 h) (hk : ∀ b o, h.get? b = some o → h'.get? b = some o) : Full51 h' := let ⟨c, e, r⟩ := x; ⟨c, hk _ _ e, r.keeps hk⟩
noncomputable abbrev lstObj (vs : List Value) (e : Nat) : Obj := W.listOf (List.toArray vs) e
noncomputable abbrev tup2 (a b : Value) : Obj := { cls := .type "tuple", data := .seq #[a, b] }
noncomputable abbrev MP := model PySem.Challenge.rw_rl0058_01.row.prog
section
variable {w : World} {loose : List Str} {mean : ExcName → Option Value} {mg mb : Str → Option Value} {dp un : Nat} {fr : Option (List Env)} {gd : Option (List Code)} {s : Shared} {Q E : Value → Shared → Prop}
  {g₀ h₀ : Heap} {L : Addr} {m : Str → Option Value} {news : List (Addr × Obj)}
theorem d2n_use {a b n : Int} {ta tb tn : Tok} (X : (Mine.hk.heap_1 w.params).In h₀) (T : Top topProg loose mean mg mb h₀) (hd : dp < 900) (F : Fr h₀ L s.heap m) (N : News h₀ L s.heap news)
    (ha0 : 0 ≤ a) (ha : a < 18446744073709551616) (hb : 0 < b) (hbs : b < 4294967296) (hbits : (Builtin.Int.intBits a : Int) - n ≤ 4000)
    (h : ∀ D h' tk t1 t2, Fr h₀ L h' m → News h₀ L h' ((D, tup2 (.int (a.fdiv b) t1) (.int (a.fmod b) t2)) :: news) → AllNe D news → Q (.ref D) { s with heap := h', toks := tk }) :
    wpAny (model PySem.Challenge.rw_rl0058_01.row.prog w) (AA dp fr gd un) (call (.ref 35) [.int a ta, .int b tb, .int n tn]) Q E s :=
  d2n_call w loose mean mg mb dp un fr gd s Q E (X.keeps F.keep) (T.keeps F.keep) hd a b n ta tb tn ha0 ha hb hbs hbits fun D h' tk' t1 t2 hk hD ho =>
    have z := news_new F N hk hD ho
    h D h' tk' t1 t2 (F.keeps hk) z.1 z.2
theorem i2d_use {a n : Nat} {ta tn : Tok} (G : Gd w loose mean mg mb g₀) (S : g₀.StaysIn h₀) (hd : dp < 800) (F : Fr h₀ L s.heap m) (N : News h₀ L s.heap news) (hf : Full44 h₀)
    (ha : a < 2 ^ 64) (hn0 : 0 < n) (hn1 : n ≤ 64)
    (h : ∀ D h' tk vs e, Fr h₀ L h' m → News h₀ L h' ((D, lstObj vs e) :: news) → AllNe D news → IntsAre vs (dgI n (cnt a n) a) → Q (.ref D) { s with heap := h', toks := tk }) :
    wpAny (model PySem.Challenge.rw_rl0058_01.row.prog w) (AA dp fr gd un) (call (.ref 49) [.int a ta, .int n tn]) Q E s := by
  obtain ⟨c, h44, hc⟩ := hf.keeps F.keep
  refine i2d_call w loose mean mg mb dp un fr gd s Q E g₀ G.X G.T (fun b o e => F.keep b o (S b o e)) G.C48 G.n44 hd ⟨_, h44, .inr ⟨c, rfl, hc⟩⟩ a n ta tn ha hn0 hn1 fun D h' tk' vs e hk hs hD ho hI => ?_
  have hk' : ∀ b o, s.heap.get? b = some o → h'.get? b = some o := fun b o eb => by
    by_cases e1 : b = 44
    · subst e1
      rcases hs with ⟨c', x1, _⟩ | ⟨c', x1, x2, _⟩
      · rw [x1] at h44; cases h44
      · rw [x1] at eb; cases eb; exact x2
    · exact hk b o e1 eb
  have z := news_new F N hk' hD ho
  exact h D h' tk' vs e (F.keeps hk') z.1 z.2 hI
/-- a call that may fill the table 51, in a frame whose ledger holds it -/
theorem d2i_use {ms : List Int} {vs : List Value} {d : Addr} {n : Nat} {tn : Tok} {ps : Array Value} {g : Obj → List (Addr × Obj)} (G : Gd w loose mean mg mb g₀) (S : g₀.StaysIn h₀) (hd : dp < 800) (F : Fr h₀ L s.heap m) (N : News h₀ L s.heap news)
    (U : UpdF 51 (tabObj ps) news g) (hps : TabPs 88 4 q51 ps h₀)
    (hL : s.heap.IsList d vs.toArray) (hI : IntsAre vs ms) (hlen : ms.length ≤ 100) (hn0 : 0 < n) (hn1 : n ≤ 64) (hnn : ∀ d ∈ ms, 0 ≤ d) (hv : dv n ms < 2 ^ 64)
    (h1 : ps ≠ #[] → ∀ h' tk t, Fr h₀ L h' m → News h₀ L h' news → Q (.int (dv n ms) t) { s with heap := h', toks := tk })
    (h2 : ps = #[] → ∀ h' tk t c oc us uq, Fr h₀ L h' m → News h₀ L h' ((c, oc) :: g (tab51 c)) → AllNe c news → oc.data = .fields us → us[1]? = some (.str q51 uq) → Q (.int (dv n ms) t) { s with heap := h', toks := tk }) :
    wpAny (model PySem.Challenge.rw_rl0058_01.row.prog w) (AA dp fr gd un) (call (.ref 56) [.ref d, .int n tn]) Q E s := by
  obtain ⟨pre, post, hl, hg, q1, q2⟩ := U.split
  have N' : News h₀ L s.heap (pre ++ (51, tabObj ps) :: post) := hl ▸ N
  have z := N' (51, tabObj ps) (List.mem_append_right _ (.head _))
  have ht : Tab51 s.heap := ⟨ps, z.1, hps.imp id fun ⟨c', e, r⟩ => ⟨c', e, r.keeps F.keep⟩⟩
  refine d2i_call w loose mean mg mb dp un fr gd s Q E g₀ G.X G.T (fun b o e => F.keep b o (S b o e)) G.C55 G.n51 hd ht d vs ms n tn hL hI hlen hn0 hn1 hnn hv fun h' tk' t hk hs => ?_
  have F' : Fr h₀ L h' m := ⟨F.ns.at' fun o e => hk _ o z.2.1.symm e, fun b o e => hk b o (fun q => by rw [q, z.2.2] at e; cases e) (F.keep b o e), F.above⟩
  have Ng : ∀ o', h'.get? 51 = some o' → News h₀ L h' (g o') := fun o' ho => hg _ ▸ fun p hp => by
    rcases List.mem_append.mp hp with q | q
    · have P := N' p (List.mem_append_left _ q); exact ⟨hk _ _ (q1 p q) P.1, P.2⟩
    · rcases List.mem_cons.mp q with rfl | q
      · exact ⟨ho, z.2⟩
      · have P := N' p (List.mem_append_right _ (.tail _ q)); exact ⟨hk _ _ (q2 p q) P.1, P.2⟩
  rcases hs with ⟨c, x1, x2, x3, x4⟩ | ⟨c, x1, x2, x3⟩
  · have e0 : ps = #[] := by have := z.1; rw [x1] at this; cases this; rfl
    obtain ⟨c₂, oc, us, uq, ec, ho, hdt, hu1⟩ := x3
    cases ec
    have c51 : c ≠ 51 := fun q => by rw [q, x1] at x4; cases x4
    refine h2 e0 h' tk' t c oc us uq F' (fun p hp => ?_) (allNe_of fun p hp q => ?_) hdt hu1
    · rcases List.mem_cons.mp hp with rfl | hp
      · refine ⟨ho, fun e => ?_, ?_⟩
        · obtain ⟨ol, _, _, e2, _⟩ := F.ns
          rw [← e, x4] at e2; cases e2
        · cases e : h₀.get? c with
          | none => rfl
          | some o' => have := F.keep c o' e; rw [x4] at this; cases this
      · exact Ng _ x2 p hp
    · have := (N p hp).1; rw [q, x4] at this; cases this
  · have e0 : ps = #[rawInt 88, rawInt 4, .ref c] := by have := z.1; rw [x1] at this; cases this; rfl
    have hne : ps ≠ #[] := by rw [e0]; simp
    refine h1 hne h' tk' t F' ?_
    have := Ng _ x2
    rw [hg] at this
    rw [hl, e0]
    exact this
end
end
end
section
open PySem PySem.W PyProof.Rows PySem.Calls PySem.Spec
set_option Elab.async false
set_option maxRecDepth 100000
set_option maxHeartbeats 1000000
section
/-- what is known of a frame's map: a loop's name, one known name, one forgotten -/
theorem map_cat3 {x y u : Str} {m₁ m₀ : Str → Option Value} {vx vy : Option Value} (hy : m₁ y = vy) (hm : ∀ z, z ≠ x → z ≠ y → z ≠ u → m₁ z = m₀ z) :
    (fun z => if z = x then vx else m₁ z) = fun z => if z = x then vx else if z = y then vy else if z = u then m₁ u else m₀ z := by
  funext z
  by_cases h1 : z = x
  · rw [if_pos h1, if_pos h1]
  · rw [if_neg h1, if_neg h1]
    by_cases h2 : z = y
    · rw [if_pos h2, h2, hy]
    · rw [if_neg h2]
      by_cases h3 : z = u
      · rw [if_pos h3, h3]
      · rw [if_neg h3, hm z h1 h2 h3]
theorem map_cat2 {x y : Str} {m₁ m₀ : Str → Option Value} {vx vy : Option Value} (hy : m₁ y = vy) (hm : ∀ z, z ≠ x → z ≠ y → m₁ z = m₀ z) :
    (fun z => if z = x then vx else m₁ z) = fun z => if z = x then vx else if z = y then vy else m₀ z := by
  funext z
  by_cases h1 : z = x
  · rw [if_pos h1, if_pos h1]
  · rw [if_neg h1, if_neg h1]
    by_cases h2 : z = y
    · rw [if_pos h2, h2, hy]
    · rw [if_neg h2, hm z h1 h2]
theorem map_self (x : Str) (m₁ : Str → Option Value) : m₁ = fun z => if z = x then m₁ x else m₁ z := by
  funext z
  by_cases h : z = x
  · rw [if_pos h, h]
  · rw [if_neg h]
theorem ints_reverse {vs : List Value} {ns : List Int} (h : IntsAre vs ns) : IntsAre vs.reverse ns.reverse := by
  induction h with
  | nil => exact .nil
  | cons n t r ih => rw [List.reverse_cons, List.reverse_cons]; exact ih.append (.cons n t .nil)
/-- a goal at which the walk stands still -/
noncomputable def Hold (P : Prop) : Prop := P
theorem Hold.out {P : Prop} (h : Hold P) : P := h
theorem Hold.mk {P : Prop} (h : P) : Hold P := h
theorem name_map {h₀ h : Heap} {L : Addr} {m : Str → Option Value} (F : Fr h₀ L h m) : ∃ m₀, m₀ = m ∧ Fr h₀ L h m₀ := ⟨m, rfl, F⟩
/-- behind a turn of a loop whose ledger may grow -/
noncomputable def LedPost (h₀ : Heap) (L : Addr) (I : Addr) (oI : Obj) (J : (Str → Option Value) → List (Addr × Obj) → Prop) (s₁ : Shared) (Q : Flow → Shared → Prop) (f : Flow) (s₂ : Shared) : Prop :=
  match f with
  | .ret v => Q (.ret v) s₂
  | .brk => Q .next s₂
  | _ => ∃ h' tk m' nx, s₂ = { s₁ with heap := h', toks := tk } ∧ Fr h₀ L h' m' ∧ News h₀ L h' ((I, oI) :: nx) ∧ AllNe I nx ∧ J m' nx
theorem led_end {h₀ h' : Heap} {L I : Addr} {oI : Obj} {J : (Str → Option Value) → List (Addr × Obj) → Prop} {s₁ : Shared} {Q : Flow → Shared → Prop} {m' : Str → Option Value} {all : List (Addr × Obj)} {tk : Nat} (nx : List (Addr × Obj))
    (F : Fr h₀ L h' m') (N : News h₀ L h' all) (hs : ∀ p ∈ (I, oI) :: nx, p ∈ all) (hn : AllNe I nx) (hJ : J m' nx) : LedPost h₀ L I oI J s₁ Q .next { s₁ with heap := h', toks := tk } :=
  ⟨h', tk, m', nx, rfl, F, fun p hp => N p (hs p hp), hn, hJ⟩
section
variable {prog : Program} {w : World} {A : Around} {E : Value → Shared → Prop} {s : Shared} {env : Env} {h₀ : Heap} {x : Str} {body : List Stmt} {Q : Flow → Shared → Prop}
theorem loop_led {I : Addr} {fp : List Addr} {n : Nat} {P : Nat → Value → Prop} {St : Nat → Heap → Prop} {m₀ : Str → Option Value} {news : List (Addr × Obj)} (J : Nat → (Str → Option Value) → List (Addr × Obj) → Prop)
    (W : Walks prog w A I fp [I] n P St) (hLf : env.locals ∉ fp) (hI₀ : h₀.get? I = none) (hIf : I ∈ fp) (hfp : ∀ b ∈ fp, b = I ∨ (∃ o, h₀.get? b = some o) ∨ ∃ o, ∀ i m nx, J i m nx → (b, o) ∈ nx)
    (hIo : ∀ i h, St i h → ∃ o, h.get? I = some o) (hst : St 0 s.heap) (F : Fr h₀ env.locals s.heap m₀) (N : News h₀ env.locals s.heap news) (hnw : AllNe I news) (hj : J 0 m₀ news)
    (turn : ∀ i v m₁ nx h tk oI, i < n → P i v → J i m₁ nx → AllNe I nx → Fr h₀ env.locals h (fun y => if y = x then some v else m₁ y) → News h₀ env.locals h ((I, oI) :: nx) →
      wpAny (model prog w) A (execs body env) (LedPost h₀ env.locals I oI (J (i + 1)) { s with heap := h, toks := tk } Q) E { s with heap := h, toks := tk })
    (done : ∀ m₁ nx h tk, J n m₁ nx → Fr h₀ env.locals h m₁ → News h₀ env.locals h nx → Q .next { s with heap := h, toks := tk }) :
    LoopAtV prog w A h₀ env x body Q E (.ref I) s := by
  refine ⟨I, fp, [I], n, P, St, m₀, news, J, rfl, W, hLf, (fun b hb => by rw [List.mem_singleton.mp hb]; exact hI₀), (fun p hp hm => allNe_mem hnw p hp (List.mem_singleton.mp hm)), hst, F, N, hj, ?_, ?_⟩
  · rintro i v m₁ news₁ s₁ own ⟨hh', tk', rfl⟩ hin hP hJ hoff hown hoh hown2 hSt F₁ N₁
    obtain ⟨oI, hoI⟩ := hIo _ _ hSt
    have hmI : (I, oI) ∈ own := hown2 I hIf hI₀ oI hoI
    have hne : AllNe I news₁ := allNe_of fun p hp e => hoff p hp (by rw [e]; exact List.mem_singleton.mpr rfl)
    have N₂ : News h₀ env.locals hh' ((I, oI) :: news₁) := fun p hp => by
      rcases List.mem_cons.mp hp with rfl | hp
      · exact N₁ _ (List.mem_append_left _ hmI)
      · exact N₁ p (List.mem_append_right _ hp)
    refine wpAny_mono (turn i v m₁ news₁ hh' tk' oI hin hP hJ hne F₁ N₂) (fun f s₂ p => ?_) fun _ _ e => e
    have fin : (∃ h' tk m' nx, s₂ = { ({ s with heap := hh', toks := tk' } : Shared) with heap := h', toks := tk } ∧ Fr h₀ env.locals h' m' ∧ News h₀ env.locals h' ((I, oI) :: nx) ∧ AllNe I nx ∧ J (i + 1) m' nx) →
        LoopStepU h₀ env.locals [I] own (J (i + 1)) { s with heap := hh', toks := tk' } .next s₂ := by
      rintro ⟨h', tk, m', nx, e, F', N', hne', hJ'⟩
      refine ⟨rfl, h', tk, m', nx, e, F', fun p hp => ?_, fun p hp hm => allNe_mem hne' p hp (List.mem_singleton.mp hm), hJ'⟩
      rcases List.mem_append.mp hp with h1 | h1
      · have P1 := N₁ p (List.mem_append_left _ h1)
        rcases hfp p.1 (hown p h1) with h2 | ⟨o, h2⟩ | ⟨o, h2⟩
        · have hp2 : p.2 = oI := by have := P1.1; rw [h2, hoI] at this; exact (Option.some.inj this).symm
          have := N' (I, oI) (.head _)
          rw [← h2, ← hp2] at this
          exact this
        · rw [P1.2.2] at h2; cases h2
        · have m1 := N₁ _ (List.mem_append_right _ (h2 i m₁ news₁ hJ))
          have hp2 : p.2 = o := by have := P1.1; rw [m1.1] at this; exact (Option.some.inj this).symm
          have := N' (p.1, o) (.tail _ (h2 (i + 1) m' nx hJ'))
          rw [← hp2] at this
          exact this
      · exact N' p (.tail _ h1)
    cases f with
    | ret v => exact .ret p
    | brk => exact .brk p
    | next => exact .next (fin p)
    | cont => exact .cont (fin p)
  · rintro h' tk m' news' F' N' _ hJ
    exact done m' news' h' tk hJ F' N'
/-- backwards over a list of the ledger -/
theorem iter_rev {I l : Addr} {vs : List Value} {e : Nat} {m₀ : Str → Option Value} {news : List (Addr × Obj)} (J : Nat → (Str → Option Value) → List (Addr × Obj) → Prop)
    (hh : A.handled = none) (F : Fr h₀ env.locals s.heap m₀) (N : News h₀ env.locals s.heap ((I, revObj l ((vs.length : Int) - 1)) :: news)) (hl : (l, lstObj vs e) ∈ news) (hne : AllNe I news) (hj : J 0 m₀ news) (hJl : ∀ i m nx, J i m nx → (l, lstObj vs e) ∈ nx)
    (turn : ∀ i v m₁ nx h tk oI, i < vs.length → vs[vs.length - 1 - i]? = some v → J i m₁ nx → AllNe I nx → Fr h₀ env.locals h (fun y => if y = x then some v else m₁ y) → News h₀ env.locals h ((I, oI) :: nx) →
      wpAny (model prog w) A (execs body env) (LedPost h₀ env.locals I oI (J (i + 1)) { s with heap := h, toks := tk } Q) E { s with heap := h, toks := tk })
    (done : ∀ m₁ nx h tk, J vs.length m₁ nx → Fr h₀ env.locals h m₁ → News h₀ env.locals h nx → Q .next { s with heap := h, toks := tk }) :
    wpAny (model prog w) A (pyIter (.ref I)) (fun it s₂ => LoopAtV prog w A h₀ env x body Q E it s₂) E s := by
  have zI := N _ (.head _)
  have N' : News h₀ env.locals s.heap news := fun p hp => N p (.tail _ hp)
  have zl := N' _ hl
  have hlI : l ≠ I := allNe_mem hne _ hl
  have hit : s.heap.IsRevIter I l ((vs.length : Int) - 1) := ⟨_, zI.1, rfl, rfl⟩
  refine wpAny_pyIter_revIter hit ?_
  have W := Walks.listRev (prog := prog) (w := w) hh I l hlI vs.toArray
  have es : vs.toArray.size = vs.length := List.size_toArray ..
  rw [es] at W
  refine loop_led (I := I) J W ?_ zI.2.2 (by simp) ?_ ?_ ⟨Nat.zero_le _, by simpa using hit, ⟨_, zl.1, rfl, e, rfl⟩⟩ F N' hne hj ?_ done
  · intro hm
    rcases List.mem_cons.mp hm with e1 | hm
    · exact zI.2.1 e1.symm
    · exact zl.2.1 (List.mem_singleton.mp hm).symm
  · intro b hb
    rcases List.mem_cons.mp hb with e1 | hb
    · exact .inl e1
    · rw [List.mem_singleton.mp hb]; exact .inr (.inr ⟨_, hJl⟩)
  · rintro i h ⟨_, ⟨o, ho, _⟩, _⟩; exact ⟨o, ho⟩
  · intro i v m₁ nx h tk oI hi hP hJ hne' F' N'
    exact turn i v m₁ nx h tk oI hi (by simpa using hP) hJ hne' F' N'
/-- forwards over a list of the base -/
theorem iter_fwd {l : Addr} {vs : List Value} {m₀ : Str → Option Value} {news : List (Addr × Obj)} (J : Nat → (Str → Option Value) → List (Addr × Obj) → Prop)
    (hh : A.handled = none) (hl : h₀.IsList l vs.toArray) (F : Fr h₀ env.locals s.heap m₀) (N : News h₀ env.locals s.heap news) (hj : J 0 m₀ news)
    (turn : ∀ I i v m₁ nx h tk oI, i < vs.length → vs[i]? = some v → J i m₁ nx → AllNe I nx → Fr h₀ env.locals h (fun y => if y = x then some v else m₁ y) → News h₀ env.locals h ((I, oI) :: nx) →
      wpAny (model prog w) A (execs body env) (LedPost h₀ env.locals I oI (J (i + 1)) { s with heap := h, toks := tk } Q) E { s with heap := h, toks := tk })
    (done : ∀ m₁ nx h tk, J vs.length m₁ nx → Fr h₀ env.locals h m₁ → News h₀ env.locals h nx → Q .next { s with heap := h, toks := tk }) :
    wpAny (model prog w) A (pyIter (.ref l)) (fun it s₂ => LoopAtV prog w A h₀ env x body Q E it s₂) E s := by
  have hls : s.heap.IsList l vs.toArray := hl.at fun o e => F.keep l o e
  obtain ⟨ol, hol, _⟩ := id hl
  have hlt : l < h₀.objs.size := Heap.lt_size hol
  have hne : l ≠ s.heap.objs.size := Nat.ne_of_lt (Nat.lt_trans (Nat.lt_of_lt_of_le hlt F.above) F.ns.lt)
  refine wpAny_pyIter_list hls ?_
  have W := Walks.list (prog := prog) (w := w) hh s.heap.objs.size l hne vs.toArray
  have hlen : vs.toArray.size = vs.length := List.size_toArray ..
  rw [hlen] at W
  refine loop_led (I := s.heap.objs.size) J W ?_ (next_is_new F) (by simp) ?_ ?_ ⟨⟨_, Heap.get?_push_size _ rfl, rfl, rfl⟩, hls.at fun o e => Heap.get?_push_of_some _ e⟩ (F.push _) (fun p hp => ⟨Heap.get?_push_of_some _ (N p hp).1, (N p hp).2⟩) ?_ hj ?_ ?_
  · intro hm
    rcases List.mem_cons.mp hm with e | hm
    · exact absurd F.ns.lt (e ▸ Nat.lt_irrefl _)
    · exact absurd (Nat.lt_of_lt_of_le hlt F.above) ((List.mem_singleton.mp hm) ▸ Nat.lt_irrefl _)
  · intro b hb
    rcases List.mem_cons.mp hb with e1 | hb
    · exact .inl e1
    · rw [List.mem_singleton.mp hb]; exact .inr (.inl ⟨_, hol⟩)
  · rintro i h ⟨⟨o, ho, _⟩, _⟩; exact ⟨o, ho⟩
  · exact allNe_of fun p hp e => absurd (Heap.lt_size (N p hp).1) (e ▸ Nat.lt_irrefl _)
  · intro i v m₁ nx h tk oI hi hP hJ hne' F' N'
    exact turn s.heap.objs.size i v m₁ nx h tk oI hi (by simpa using hP) hJ hne' F' N'
  · exact done
end
end
end
section
theorem dpos_call (w : World) (loose : List Str) (mean : ExcName → Option Value) (mg mb : Str → Option Value) (dp un : Nat) (fr : Option (List Env)) (gd : Option (List Code)) (s : Shared)
    (Q E : Value → Shared → Prop) (g₀ : Heap) (G : Gd w loose mean mg mb g₀) (S : g₀.StaysIn s.heap) (hd : dp < 700)
    (h44 : Full44 s.heap) (ht : Tab51 s.heap)
    (a b : Nat) (ta tb : Tok) (ha : a < 4294967296) (hb0 : 0 < b) (hb : b < 2147483648)
    (hret : ∀ D h' tk' t1 t2, (∀ b o, b ≠ 51 → s.heap.get? b = some o → h'.get? b = some o) → Step51 s.heap h' → s.heap.get? D = none → h'.get? D = some (tup2 (.int (a / b : Nat) t1) (.int (a % b : Nat) t2)) → Q (.ref D) { s with heap := h', toks := tk' }) :
    wpAny (model PySem.Challenge.rw_rl0058_01.row.prog w) (AA dp fr gd un) (call (.ref 63) [.int a ta, .int b tb]) Q E s := by
  k_with_none
  k_with "my fold" => ((try (with_reducible refine GTurn.letG ?_; intro gk)); (try (show wpAny _ _ _ _ _ _; k_fold)))
  k_with "my steps" => (walk_at "my fold"; repeat' (first | (k_unfold; (try dsimp only)) | (k_end; wrow_close) | walk1 | (dsimp only; walk1) | (leave1; walk_say "STEP leave1"; try dsimp only) | fail "no step"))
  k_with "my pick" => first | with_reducible assumption | with_reducible exact And.left (by assumption) | with_reducible exact And.left (And.right (by assumption)) | with_reducible exact And.left (And.right (And.right (by assumption))) | with_reducible exact And.left (And.right (And.right (And.right (by assumption)))) | with_reducible exact And.left (And.right (And.right (And.right (And.right (by assumption))))) | with_reducible exact And.left (And.right (And.right (And.right (And.right (And.right (by assumption)))))) | with_reducible exact And.left (And.right (And.right (And.right (And.right (And.right (And.right (by assumption))))))) | with_reducible exact And.left (And.right (And.right (And.right (And.right (And.right (And.right (And.right (by assumption)))))))) | with_reducible exact And.left (And.right (And.right (And.right (And.right (And.right (And.right (And.right (And.right (by assumption))))))))) | with_reducible exact And.left (And.right (And.right (And.right (And.right (And.right (And.right (And.right (And.right (And.right (by assumption)))))))))) | with_reducible exact And.left (And.right (And.right (And.right (And.right (And.right (And.right (And.right (And.right (And.right (And.right (by assumption)))))))))))
  k_with "my ne" => first | exact Nat.ne_of_gt (by walk_at "my pick") | exact Nat.ne_of_lt (by walk_at "my pick") | walk_at "my pick" | exact Ne.symm (by walk_at "my pick")
  k_with "my kn" => (first | walk_at "my ne" | omega)
  k_with "my kne" => (refine neN ?_; (try dsimp only); walk_at "my kn")
  k_with "eval Name" => (k_here; k_dflt (refine' nameX_L ?Fw6 ?vw6 ?_ ?aw6 ?bw6; (case Fw6 => k_asm); (case aw6 => rfl); (case bw6 => rfl); (case vw6 => exact Eq.refl (some _)); k_whole))
  k_with "execs cons" => ((show wpAny _ _ _ _ _ _); k_fold)
  k_with "call builtin:max" => ((with_reducible show wpAny _ _ (call (Value.builtin "max") [Value.int _ _, Value.int _ _, Value.int _ _]) _ _ _); (with_unfolding_all refine' max3_N ?k0w8 ?k1w8 ?k2w8 ?_; (case k0w8 => rfl); (case k1w8 => k_asm); (case k2w8 => k_asm); k_whole); walk_at "my in5"; (try k_sweep))
  k_with "call builtin:min" => ((with_reducible show wpAny _ _ (call (Value.builtin "min") [Value.int _ _, Value.int _ _, Value.int _ _]) _ _ _); (with_unfolding_all refine' min3_N ?k0w9 ?k1w9 ?k2w9 ?_; (case k0w9 => rfl); (case k1w9 => k_asm); (case k2w9 => k_asm); k_whole); walk_at "my in5"; (try k_sweep))
  k_with "call builtin:list.append" => ((show wpAny _ _ (call (Value.builtin "list.append") [Value.ref _, _]) _ _ _); k_dflt (refine' append_K ?k1w10 ?k2w10 ?k3w10 ?_ ?zw10; (case k1w10 => k_asm); (case k2w10 => k_asm); (case k3w10 => k_upd); (case zw10 => size_fits); k_whole); walk_at "my in3"; (try k_sweep))
  k_with "my enter" => (k_dflt (refine' enter ?Xw11 ?Tw11 ?hdw11 ?how11 ?hcdw11 ?hbw11 ?hlw11 ?hcw11 ?c1w11 ?c2w11 ?c3w11 ?_; (case Xw11 => assumption); (case Tw11 => assumption); (case hdw11 => (show _ < 1000; omega)); (case how11 => k_is); (case hcdw11 => k_is); (case hbw11 => exact BindsTo.of_eq rfl); (case hlw11 => exact locs rfl); (case hcw11 => decide); (case c1w11 => rfl); (case c2w11 => rfl); (case c3w11 => rfl); k_whole); walk_at "my inL"; (try dsimp only); (try k_fold))
  k_with "my enterC" => (k_dflt (refine' enterC ?Xw12 ?Tw12 ?hdw12 ?how12 ?hcdw12 ?hbw12 ?hlw12 ?hnw12 ?c1w12 ?c2w12 ?c3w12 ?_; (case Xw12 => assumption); (case Tw12 => assumption); (case hdw12 => (show _ < 1000; omega)); (case how12 => k_is); (case hcdw12 => k_is); (case hbw12 => exact BindsTo.of_eq rfl); (case hlw12 => rfl); (case hnw12 => decide +kernel); (case c1w12 => rfl); (case c2w12 => rfl); (case c3w12 => rfl); k_whole); walk_at "my inC"; (try dsimp only); (try k_fold))
  k_with "my end" => ((try dsimp only); (try k_unfold); (try dsimp only))
  k_with "call builtin:list.extend" => ((show wpAny _ _ (call (Value.builtin "list.extend") [Value.ref _, Value.ref _]) _ _ _); k_dflt (refine' extend_my ?k1w14 ?k2w14 ?k3w14 ?k4w14 ?zw14 ?_; (case k1w14 => k_asm); (case k2w14 => k_asm); (case k3w14 => k_updF); (case k4w14 => k_mem); (case zw14 => (simp only [PySem.sizeLine_eq, List.length_append, List.length_cons, List.length_nil]; omega)); k_whole); walk_at "my inX"; (try k_sweep))
  k_with "my sub" => repeat (first | exact List.forall_mem_nil _ | (refine List.forall_mem_cons.mpr ⟨by k_mem, ?_⟩))
  k_with "binaryOp LShift int int" => ((with_reducible show wpAny _ _ (binaryOp _ (Value.int _ _) (Value.int (Nat.cast _) _)) _ _ _); k_dflt (refine' lshift_int_small (Int.natCast_nonneg _) ?bw16 ?cw16 ?_; (case bw16 => omega); (case cw16 => omega); k_whole); (try simp only [Int.toNat_natCast]))
  k_with "my enterN" => (k_dflt (refine' enterN ?news ?Xw17 ?Tw17 ?Sw17 ?hn ?hdw17 ?how17 ?hcdw17 ?hbw17 ?hlw17 ?hcw17 ?c1w17 ?c2w17 ?c3w17 ?_; (case Xw17 => assumption); (case Tw17 => assumption); (case Sw17 => assumption); (case hdw17 => (show _ < 1000; omega)); (case how17 => k_is); (case hcdw17 => k_is); (case hbw17 => exact BindsTo.of_eq rfl); (case hlw17 => exact locs rfl); (case hcw17 => decide); (case c1w17 => rfl); (case c2w17 => rfl); (case c3w17 => rfl)))
  obtain ⟨X, T, C48, C55, n44, n51⟩ := id G
  w_on
  revert X; k_fill; intro X
  obtain ⟨ps, h51, hps⟩ := ht
  walk_at "my enterN"
  case news => exact [(51, tabObj ps)]
  case hn => (intro p hp; simp only [List.mem_singleton] at hp; subst hp; exact h51)
  intro L' h' F' N' l0
  dsimp only [List.map] at F' N'
  have sg := stays_hide1 S n51
  have X' := X.keeps sg
  have T' := T.keeps sg
  k_lt l0
  (try dsimp only)
  (try k_fold)
  have f44 : Full44 (hideAll s.heap [51]) := by
    obtain ⟨c, e1, e2⟩ := h44
    exact ⟨c, hide1_get e1 (by decide), codeRec_hideT ⟨_, h51, hps⟩ e2⟩
  have hps' : TabPs 88 4 q51 ps (hideAll s.heap [51]) := hps.imp id fun ⟨c', e, r⟩ => ⟨c', e, codeRec_hideT ⟨_, h51, hps⟩ r⟩
  walk_at "my steps"
  show wpAny _ _ (call (.ref 49) [.int a _, .int _ _]) _ _ _
  have hbits : b < 2 ^ Builtin.Int.intBits (b : Int) := bits_lt b
  have hbits1 : Builtin.Int.intBits (b : Int) ≤ 31 := bits_le (k := 31) hb
  have hbits0 : 0 < Builtin.Int.intBits (b : Int) := bits_pos (by omega)
  generalize hN : Builtin.Int.intBits (b : Int) = n at *
  k_dflt (refine' i2d_use G sg ?hd ?F ?N f44 ?a1 ?a2 ?a3 ?_; (case hd => (show dp + 1 < 800; omega)); (case F => k_asm); (case N => k_asm); (case a1 => exact Nat.lt_trans ha (by decide)); (case a2 => assumption); (case a3 => omega))
  intro Da h' tk' vs e F' N' l1 hI
  dsimp only [AllNe] at l1
  walk_at "my steps"
  rename_i Dq hx2 lq hx1 DR hx0 F1 N1 lR
  obtain ⟨m₀, hm₀, F1⟩ := name_map F1
  have hlen : vs.length = cnt a n := by rw [hI.length, dgI_length]
  have hfit : a < 2 ^ (cnt a n * n) := cnt_fits hbits0
  have hcl : cnt a n ≤ 64 := cnt_le (Nat.lt_trans ha (by decide)) hbits0
  refine iter_rev (e := e) (vs := vs) (news := [(Dq, W.listOf #[] 0), (Da, lstObj vs e), (51, tabObj ps)])
    (fun i m nx => ∃ (r : Int) (qs : List Int) (qv : List Value) (e1 : Nat) (t : Tok), nx = [(Dq, lstObj qv e1), (Da, lstObj vs e), (51, tabObj ps)] ∧ IntsAre qv qs ∧ DP a b n (cnt a n) i r qs ∧ m (Str.ofString "r") = some (.int r t) ∧
      ∀ z, z ≠ Str.ofString "a_digit" → z ≠ Str.ofString "r" → z ≠ Str.ofString "q_digit" → m z = m₀ z) rfl F1 N1 (by k_mem) ?_ ?_ ?_ ?_ ?_
  · exact allNe_of (by k_all)
  · exact ⟨0, [], [], 0, _, rfl, .nil, dp_start hfit, (by rw [hm₀]; rfl), fun _ _ _ _ => rfl⟩
  · rintro i m nx ⟨r, qs, qv, e1, t, rfl, -⟩
    exact .tail _ (.head _)
  · rintro i v m₁ nx h3 tk3 oI hi hv ⟨r, qs, qv, e1, t, rfl, hqI, hdp, hmr, hm⟩ hne F2 N2
    dsimp only [AllNe] at hne
    rw [hlen] at hi hv
    obtain ⟨tv, hv2⟩ := hI.get (cnt a n - 1 - i) _ (dgI_get (by omega))
    rw [hv2] at hv
    obtain rfl := Option.some.inj hv
    rw [map_cat3 hmr hm, hm₀] at F2
    generalize m₁ (Str.ofString "q_digit") = qu at F2
    have hb3 := dp_num hdp hb0 hb hbits1
    have hr0 := hb3.1
    have hr1 := hb3.2.1
    have hdig := hb3.2.2 _ (Nat.mod_lt (a / 2 ^ ((cnt a n - 1 - i) * n)) (Nat.two_pow_pos n))
    have hstep := dp_step hdp hb0 (i := i) hi
    walk_at "my steps"
    show wpAny _ _ (call (.ref 35) [.int _ _, .int _ _, .int _ _]) _ _ _
    k_dflt (refine' d2n_use ?X ?T ?hd ?F ?N hdig.1 hdig.2 ?b1 ?b2 ?b3 ?_; (case X => k_asm); (case T => k_asm); (case hd => (show dp + 1 < 900; omega)); (case F => k_asm); (case N => k_asm); (case b1 => omega); (case b2 => omega); (case b3 => (have hb9 := bits_my hdig.1 hdig.2; omega)))
    intro D1 h4 tk4 t1 t2 F4 N4 l4
    dsimp only [AllNe] at l4
    have hql : qv.length ≤ 64 := by rw [hqI.length, hdp.len]; omega
    walk_at "my steps"
    rename News _ _ _ _ => N5
    rename Fr _ _ _ _ => F5
    simp only [List.push_toArray] at N5
    refine led_end [(Dq, lstObj (qv ++ [_]) (e1 + 1)), (Da, lstObj vs e), (51, tabObj ps)] F5 N5 (by walk_at "my sub") ⟨hne.1, hne.2.1, hne.2.2.1, trivial⟩ ?_
    refine ⟨_, _, _, _, _, rfl, hqI.append (.cons _ _ .nil), hstep, rfl, fun z z1 z2 z3 => ?_⟩
    rw [hm₀]; dsimp only; simp only [z1, z2, z3, if_false]
  · rintro m₁ nx h3 tk3 ⟨r, qs, qv, e1, t, rfl, hqI, hdp, hmr, hm⟩ F2 N2
    rw [hlen] at hdp
    have hd2 := dp_done hdp
    obtain rfl := hd2.1
    rw [map_self (Str.ofString "a_digit") m₁, map_cat3 hmr hm, hm₀] at F2
    generalize m₁ (Str.ofString "q_digit") = qu at F2
    generalize m₁ (Str.ofString "a_digit") = ua at F2
    walk_at "my steps"
    show wpAny _ _ (call (Value.builtin "list.reverse") [Value.ref Dq]) _ _ _
    have hql : qv.length ≤ 64 := by rw [hqI.length, hdp.len]; exact hcl
    k_dflt (refine' kl_reverse ?F ?N ?e ?U ?z ?_; (case F => k_asm); (case N => k_asm); (case U => exact Upd.head (by k_all)); (case e => exact rfl); (case z => (show (qv.toArray.toList).length ≤ _; rw [PySem.sizeLine_eq]; exact Nat.le_trans hql (by decide))))
    intro h7 F7 N7
    walk_at "my steps"
    show wpAny _ _ (call (.ref 56) [.ref Dq, .int _ _]) _ _ _
    have hqr : IntsAre qv.reverse qs.reverse := ints_reverse hqI
    have hql2 : qs.reverse.length ≤ 100 := by rw [List.length_reverse, hdp.len]; omega
    have hdv : dv n qs.reverse < 2 ^ 64 := by
      rw [hd2.2]
      have h9 := Nat.div_le_self a b
      omega
    k_dflt (refine' d2i_use (ps := ps) (ms := qs.reverse) (vs := qv.reverse) G sg ?hd ?F ?N ?U hps' ?hL hqr hql2 hbits0 ?n1 ?nn hdv ?_ ?_; (case hd => (show dp + 1 < 800; omega)); (case F => k_asm); (case N => k_asm); (case U => k_updF); (case hL => exact ⟨_, News.get (by k_asm) (by k_mem), rfl, _, rfl⟩); (case n1 => omega); (case nn => (intro q hq; exact hdp.nn q (List.mem_reverse.mp hq))))
    · intro hne h8 tk8 t8 F8 N8
      rw [hd2.2]
      walk_at "my steps"
      all_goals (walk_at "my end")
      rcases hps with h9 | ⟨c9, rfl, hc9⟩
      · exact absurd h9 hne
      exact hret _ _ _ _ _ (keep_but (by assumption)) (TabStep.same h51 (News.get (by assumption) (by k_mem)) ((codeRec_hideT ⟨_, h51, .inr ⟨c9, rfl, hc9⟩⟩ hc9).keeps (Fr.keep (by assumption)))) (fresh_hide (News.fresh (by assumption) (by k_mem)) (Nat.ne_of_gt (by omega))) (News.get (by assumption) (by k_mem))
    · intro he h8 tk8 t8 c8 oc8 us8 uq8 F8 N8 l8 e8 g8
      dsimp only [AllNe] at l8 N8
      rw [hd2.2]
      walk_at "my steps"
      all_goals (walk_at "my end")
      rename News _ _ _ _ => N9
      rename Fr _ _ _ _ => F9
      subst he
      exact hret _ _ _ _ _ (keep_but F9) (TabStep.bare h51 (News.get N9 (by k_mem)) ⟨c8, oc8, us8, uq8, rfl, News.get N9 (by k_mem), e8, g8⟩ (News.fresh N9 (o := oc8) (by k_mem))) (fresh_hide (News.fresh N9 (List.Mem.head _)) (Nat.ne_of_gt (by omega))) (News.get N9 (by k_mem))
end
section
open PySem PySem.W PyProof.Rows PySem.Calls PySem.Spec
set_option Elab.async false
set_option maxRecDepth 100000
set_option maxHeartbeats 1000000
section
section
variable {w : World} {loose : List Str} {mean : ExcName → Option Value} {mg mb : Str → Option Value} {dp un : Nat} {fr : Option (List Env)} {gd : Option (List Code)} {s : Shared} {Q E : Value → Shared → Prop}
  {g₀ h₀ : Heap} {L : Addr} {m : Str → Option Value} {news : List (Addr × Obj)}
/-- the ledger behind a call that may fill the table 51 -/
theorem led51 {h h' : Heap} {ps : Array Value} {g : Obj → List (Addr × Obj)} {D : Addr} {o : Obj} (F : Fr h₀ L h m) (N : News h₀ L h news) (U : UpdF 51 (tabObj ps) news g)
    (hk : ∀ b o, b ≠ 51 → h.get? b = some o → h'.get? b = some o) (hs : Step51 h h') (hD : h.get? D = none) (ho : h'.get? D = some o) :
    (ps ≠ #[] ∧ Fr h₀ L h' m ∧ News h₀ L h' ((D, o) :: news) ∧ AllNe D news) ∨
    (ps = #[] ∧ ∃ c oc us uq, Fr h₀ L h' m ∧ News h₀ L h' ((D, o) :: (c, oc) :: g (tab51 c)) ∧ AllNe D news ∧ AllNe c news ∧ oc.data = .fields us ∧ us[1]? = some (.str q51 uq)) := by
  obtain ⟨pre, post, hl, hg, q1, q2⟩ := U.split
  have N' : News h₀ L h (pre ++ (51, tabObj ps) :: post) := hl ▸ N
  have z := N' (51, tabObj ps) (List.mem_append_right _ (.head _))
  have F' : Fr h₀ L h' m := ⟨F.ns.at' fun o e => hk _ o z.2.1.symm e, fun b o e => hk b o (fun q => by rw [q, z.2.2] at e; cases e) (F.keep b o e), F.above⟩
  have Ng : ∀ o', h'.get? 51 = some o' → News h₀ L h' (g o') := fun o' ho => hg _ ▸ fun p hp => by
    rcases List.mem_append.mp hp with q | q
    · have P := N' p (List.mem_append_left _ q); exact ⟨hk _ _ (q1 p q) P.1, P.2⟩
    · rcases List.mem_cons.mp q with rfl | q
      · exact ⟨ho, z.2⟩
      · have P := N' p (List.mem_append_right _ (.tail _ q)); exact ⟨hk _ _ (q2 p q) P.1, P.2⟩
  have new : ∀ D o, h.get? D = none → h'.get? D = some o → (h'.get? D = some o ∧ D ≠ L ∧ h₀.get? D = none) ∧ AllNe D news := fun D o hD ho => by
    refine ⟨⟨ho, fun e => ?_, ?_⟩, allNe_of fun p hp e => ?_⟩
    · obtain ⟨ol, _, _, e2, _⟩ := F.ns
      rw [← e, hD] at e2; cases e2
    · cases e : h₀.get? D with
      | none => rfl
      | some o' => have := F.keep D o' e; rw [hD] at this; cases this
    · have := (N p hp).1; rw [e, hD] at this; cases this
  have nD := new D o hD ho
  rcases hs with ⟨c, x1, x2, x3, x4⟩ | ⟨c, x1, x2, x3⟩
  · have e0 : ps = #[] := by have := z.1; rw [x1] at this; cases this; rfl
    obtain ⟨c₂, oc, us, uq, ec, hoc, hdt, hu1⟩ := x3
    cases ec
    have nc := new c oc x4 hoc
    refine .inr ⟨e0, c, oc, us, uq, F', (fun p hp => ?_), nD.2, nc.2, hdt, hu1⟩
    rcases List.mem_cons.mp hp with rfl | hp
    · exact nD.1
    rcases List.mem_cons.mp hp with rfl | hp
    · exact nc.1
    · exact Ng _ x2 p hp
  · have e0 : ps = #[rawInt 88, rawInt 4, .ref c] := by have := z.1; rw [x1] at this; cases this; rfl
    have hne : ps ≠ #[] := by rw [e0]; simp
    refine .inl ⟨hne, F', (fun p hp => ?_), nD.2⟩
    rcases List.mem_cons.mp hp with rfl | hp
    · exact nD.1
    · have := Ng _ x2
      rw [hg] at this
      exact this p (by rw [hl, e0] at hp; exact hp)
theorem full51_of {h : Heap} {ps : Array Value} (h1 : h.get? 51 = some (tabObj ps)) (h2 : TabPs 88 4 q51 ps h) (hne : ps ≠ #[]) : Full51 h := by
  rcases h2 with rfl | ⟨c, rfl, hc⟩
  · exact absurd rfl hne
  · exact ⟨c, h1, hc⟩
theorem dpos_use {a b : Nat} {ta tb : Tok} {ps : Array Value} {g : Obj → List (Addr × Obj)} (G : Gd w loose mean mg mb g₀) (S : g₀.StaysIn h₀) (hd : dp < 700) (F : Fr h₀ L s.heap m) (N : News h₀ L s.heap news) (hf : Full44 h₀)
    (U : UpdF 51 (tabObj ps) news g) (hps : TabPs 88 4 q51 ps h₀) (ha : a < 4294967296) (hb0 : 0 < b) (hb : b < 2147483648)
    (h1 : ps ≠ #[] → ∀ D h' tk t1 t2, Fr h₀ L h' m → News h₀ L h' ((D, tup2 (.int (a / b : Nat) t1) (.int (a % b : Nat) t2)) :: news) → AllNe D news → Q (.ref D) { s with heap := h', toks := tk })
    (h2 : ps = #[] → ∀ D h' tk t1 t2 c oc us uq, Fr h₀ L h' m → News h₀ L h' ((D, tup2 (.int (a / b : Nat) t1) (.int (a % b : Nat) t2)) :: (c, oc) :: g (tab51 c)) → AllNe D news → AllNe c news → oc.data = .fields us → us[1]? = some (.str q51 uq) → Q (.ref D) { s with heap := h', toks := tk }) :
    wpAny (model PySem.Challenge.rw_rl0058_01.row.prog w) (AA dp fr gd un) (call (.ref 63) [.int a ta, .int b tb]) Q E s := by
  have z := N (51, tabObj ps) (by obtain ⟨pre, post, hl, -⟩ := U.split; rw [hl]; exact List.mem_append_right _ (.head _))
  refine dpos_call w loose mean mg mb dp un fr gd s Q E g₀ G (fun b o e => F.keep b o (S b o e)) hd (hf.keeps F.keep) ⟨ps, z.1, hps.imp id fun ⟨c', e, r⟩ => ⟨c', e, r.keeps F.keep⟩⟩ a b ta tb ha hb0 hb fun D h' tk' t1 t2 hk hs hD ho => ?_
  rcases led51 F N U hk hs hD ho with ⟨hne, x1, x2, x3⟩ | ⟨he, c, oc, us, uq, x1, x2, x3, x4, x5, x6⟩
  · exact h1 hne D h' tk' t1 t2 x1 x2 x3
  · exact h2 he D h' tk' t1 t2 c oc us uq x1 x2 x3 x4 x5 x6
end
end
section
/-- the contract of int_divmod at a, b, for calls shallower than D0 -/
noncomputable def IdmC (w : World) (D0 : Nat) (a b : Int) : Prop := ∀ (loose : List Str) (mean : ExcName → Option Value) (mg mb : Str → Option Value) (dp un : Nat) (fr : Option (List Env)) (gd : Option (List Code)) (s : Shared) (Q E : Value → Shared → Prop) (g₀ : Heap) (ta tb : Tok),
  Gd w loose mean mg mb g₀ → g₀.StaysIn s.heap → dp < D0 → Full44 s.heap → Tab51 s.heap →
  (∀ D h' tk' t1 t2, (∀ b o, b ≠ 51 → s.heap.get? b = some o → h'.get? b = some o) → Step51 s.heap h' → s.heap.get? D = none → h'.get? D = some (tup2 (.int (a.fdiv b) t1) (.int (a.fmod b) t2)) → Q (.ref D) { s with heap := h', toks := tk' }) →
  wpAny (model PySem.Challenge.rw_rl0058_01.row.prog w) (AA dp fr gd un) (call (.ref 70) [.int a ta, .int b tb]) Q E s
theorem IdmC.mono {w : World} {D0 D1 : Nat} {a b : Int} (h : IdmC w D0 a b) (hD : D1 ≤ D0) : IdmC w D1 a b :=
  fun loose mean mg mb dp un fr gd s Q E g₀ ta tb G S hd => h loose mean mg mb dp un fr gd s Q E g₀ ta tb G S (Nat.lt_of_lt_of_le hd hD)
section
variable {w : World} {loose : List Str} {mean : ExcName → Option Value} {mg mb : Str → Option Value} {dp un : Nat} {fr : Option (List Env)} {gd : Option (List Code)} {s : Shared} {Q E : Value → Shared → Prop}
  {g₀ h₀ : Heap} {L : Addr} {m : Str → Option Value} {news : List (Addr × Obj)}
theorem idm_use {D0 : Nat} {a b : Int} {ta tb : Tok} {ps : Array Value} {g : Obj → List (Addr × Obj)} (H : IdmC w D0 a b) (G : Gd w loose mean mg mb g₀) (S : g₀.StaysIn h₀) (hd : dp < D0) (F : Fr h₀ L s.heap m) (N : News h₀ L s.heap news) (hf : Full44 h₀)
    (U : UpdF 51 (tabObj ps) news g) (hps : TabPs 88 4 q51 ps h₀)
    (h1 : ps ≠ #[] → ∀ D h' tk t1 t2, Fr h₀ L h' m → News h₀ L h' ((D, tup2 (.int (a.fdiv b) t1) (.int (a.fmod b) t2)) :: news) → AllNe D news → Q (.ref D) { s with heap := h', toks := tk })
    (h2 : ps = #[] → ∀ D h' tk t1 t2 c oc us uq, Fr h₀ L h' m → News h₀ L h' ((D, tup2 (.int (a.fdiv b) t1) (.int (a.fmod b) t2)) :: (c, oc) :: g (tab51 c)) → AllNe D news → AllNe c news → oc.data = .fields us → us[1]? = some (.str q51 uq) → Q (.ref D) { s with heap := h', toks := tk }) :
    wpAny (model PySem.Challenge.rw_rl0058_01.row.prog w) (AA dp fr gd un) (call (.ref 70) [.int a ta, .int b tb]) Q E s := by
  have z := N (51, tabObj ps) (by obtain ⟨pre, post, hl, -⟩ := U.split; rw [hl]; exact List.mem_append_right _ (.head _))
  refine H loose mean mg mb dp un fr gd s Q E g₀ ta tb G (fun b o e => F.keep b o (S b o e)) hd (hf.keeps F.keep) ⟨ps, z.1, hps.imp id fun ⟨c', e, r⟩ => ⟨c', e, r.keeps F.keep⟩⟩ fun D h' tk' t1 t2 hk hs hD ho => ?_
  rcases led51 F N U hk hs hD ho with ⟨hne, x1, x2, x3⟩ | ⟨he, c, oc, us, uq, x1, x2, x3, x4, x5, x6⟩
  · exact h1 hne D h' tk' t1 t2 x1 x2 x3
  · exact h2 he D h' tk' t1 t2 c oc us uq x1 x2 x3 x4 x5 x6
end
end
end
section
theorem idm_pos (w : World) (a b : Nat) (ha : a < 4294967296) (hb0 : 0 < b) (hb : b < 2147483648) : IdmC w 600 a b := by
  k_with_none
  k_with "my fold" => ((try (with_reducible refine GTurn.letG ?_; intro gk)); (try (show wpAny _ _ _ _ _ _; k_fold)))
  k_with "my steps" => (walk_at "my fold"; repeat' (first | (k_unfold; (try dsimp only)) | (k_end; wrow_close) | walk1 | (dsimp only; walk1) | (leave1; walk_say "STEP leave1"; try dsimp only) | fail "no step"))
  k_with "my pick" => first | with_reducible assumption | with_reducible exact And.left (by assumption) | with_reducible exact And.left (And.right (by assumption)) | with_reducible exact And.left (And.right (And.right (by assumption))) | with_reducible exact And.left (And.right (And.right (And.right (by assumption)))) | with_reducible exact And.left (And.right (And.right (And.right (And.right (by assumption))))) | with_reducible exact And.left (And.right (And.right (And.right (And.right (And.right (by assumption)))))) | with_reducible exact And.left (And.right (And.right (And.right (And.right (And.right (And.right (by assumption))))))) | with_reducible exact And.left (And.right (And.right (And.right (And.right (And.right (And.right (And.right (by assumption)))))))) | with_reducible exact And.left (And.right (And.right (And.right (And.right (And.right (And.right (And.right (And.right (by assumption))))))))) | with_reducible exact And.left (And.right (And.right (And.right (And.right (And.right (And.right (And.right (And.right (And.right (by assumption)))))))))) | with_reducible exact And.left (And.right (And.right (And.right (And.right (And.right (And.right (And.right (And.right (And.right (And.right (by assumption)))))))))))
  k_with "my ne" => first | exact Nat.ne_of_gt (by walk_at "my pick") | exact Nat.ne_of_lt (by walk_at "my pick") | walk_at "my pick" | exact Ne.symm (by walk_at "my pick")
  k_with "my kn" => (first | walk_at "my ne" | omega)
  k_with "my kne" => (refine neN ?_; (try dsimp only); walk_at "my kn")
  k_with "eval Name" => (k_here; k_dflt (refine' nameX_L ?Fw6 ?vw6 ?_ ?aw6 ?bw6; (case Fw6 => k_asm); (case aw6 => rfl); (case bw6 => rfl); (case vw6 => exact Eq.refl (some _)); k_whole))
  k_with "execs cons" => ((show wpAny _ _ _ _ _ _); k_fold)
  k_with "call builtin:max" => ((with_reducible show wpAny _ _ (call (Value.builtin "max") [Value.int _ _, Value.int _ _, Value.int _ _]) _ _ _); (with_unfolding_all refine' max3_N ?k0w8 ?k1w8 ?k2w8 ?_; (case k0w8 => rfl); (case k1w8 => k_asm); (case k2w8 => k_asm); k_whole); walk_at "my in5"; (try k_sweep))
  k_with "call builtin:min" => ((with_reducible show wpAny _ _ (call (Value.builtin "min") [Value.int _ _, Value.int _ _, Value.int _ _]) _ _ _); (with_unfolding_all refine' min3_N ?k0w9 ?k1w9 ?k2w9 ?_; (case k0w9 => rfl); (case k1w9 => k_asm); (case k2w9 => k_asm); k_whole); walk_at "my in5"; (try k_sweep))
  k_with "call builtin:list.append" => ((show wpAny _ _ (call (Value.builtin "list.append") [Value.ref _, _]) _ _ _); k_dflt (refine' append_K ?k1w10 ?k2w10 ?k3w10 ?_ ?zw10; (case k1w10 => k_asm); (case k2w10 => k_asm); (case k3w10 => k_upd); (case zw10 => size_fits); k_whole); walk_at "my in3"; (try k_sweep))
  k_with "my enter" => (k_dflt (refine' enter ?Xw11 ?Tw11 ?hdw11 ?how11 ?hcdw11 ?hbw11 ?hlw11 ?hcw11 ?c1w11 ?c2w11 ?c3w11 ?_; (case Xw11 => assumption); (case Tw11 => assumption); (case hdw11 => (show _ < 1000; omega)); (case how11 => k_is); (case hcdw11 => k_is); (case hbw11 => exact BindsTo.of_eq rfl); (case hlw11 => exact locs rfl); (case hcw11 => decide); (case c1w11 => rfl); (case c2w11 => rfl); (case c3w11 => rfl); k_whole); walk_at "my inL"; (try dsimp only); (try k_fold))
  k_with "my enterC" => (k_dflt (refine' enterC ?Xw12 ?Tw12 ?hdw12 ?how12 ?hcdw12 ?hbw12 ?hlw12 ?hnw12 ?c1w12 ?c2w12 ?c3w12 ?_; (case Xw12 => assumption); (case Tw12 => assumption); (case hdw12 => (show _ < 1000; omega)); (case how12 => k_is); (case hcdw12 => k_is); (case hbw12 => exact BindsTo.of_eq rfl); (case hlw12 => rfl); (case hnw12 => decide +kernel); (case c1w12 => rfl); (case c2w12 => rfl); (case c3w12 => rfl); k_whole); walk_at "my inC"; (try dsimp only); (try k_fold))
  k_with "my end" => ((try dsimp only); (try k_unfold); (try dsimp only))
  k_with "call builtin:list.extend" => ((show wpAny _ _ (call (Value.builtin "list.extend") [Value.ref _, Value.ref _]) _ _ _); k_dflt (refine' extend_my ?k1w14 ?k2w14 ?k3w14 ?k4w14 ?zw14 ?_; (case k1w14 => k_asm); (case k2w14 => k_asm); (case k3w14 => k_updF); (case k4w14 => k_mem); (case zw14 => (simp only [PySem.sizeLine_eq, List.length_append, List.length_cons, List.length_nil]; omega)); k_whole); walk_at "my inX"; (try k_sweep))
  k_with "my sub" => repeat (first | exact List.forall_mem_nil _ | (refine List.forall_mem_cons.mpr ⟨by k_mem, ?_⟩))
  k_with "my enterN" => (k_dflt (refine' enterN ?news ?Xw16 ?Tw16 ?Sw16 ?hn ?hdw16 ?how16 ?hcdw16 ?hbw16 ?hlw16 ?hcw16 ?c1w16 ?c2w16 ?c3w16 ?_; (case Xw16 => assumption); (case Tw16 => assumption); (case Sw16 => assumption); (case hdw16 => (show _ < 1000; omega)); (case how16 => k_is); (case hcdw16 => k_is); (case hbw16 => exact BindsTo.of_eq rfl); (case hlw16 => exact locs rfl); (case hcw16 => decide); (case c1w16 => rfl); (case c2w16 => rfl); (case c3w16 => rfl)))
  have hbne : ¬ ((b : Int) = 0) := by omega
  intro loose mean mg mb dp un fr gd s Q E g₀ ta tb G S hd h44 ht hret
  obtain ⟨X, T, C48, C55, n44, n51⟩ := id G
  w_on
  revert X; k_fill; intro X
  obtain ⟨ps, h51, hps⟩ := ht
  walk_at "my enterN"
  case news => exact [(51, tabObj ps)]
  case hn => (intro p hp; simp only [List.mem_singleton] at hp; subst hp; exact h51)
  intro L' h' F' N' l0
  dsimp only [List.map] at F' N'
  have sg := stays_hide1 S n51
  have X' := X.keeps sg
  have T' := T.keeps sg
  k_lt l0
  (try dsimp only)
  (try k_fold)
  have f44 : Full44 (hideAll s.heap [51]) := by
    obtain ⟨c, e1, e2⟩ := h44
    exact ⟨c, hide1_get e1 (by decide), codeRec_hideT ⟨_, h51, hps⟩ e2⟩
  have hps' : TabPs 88 4 q51 ps (hideAll s.heap [51]) := hps.imp id fun ⟨c', e, r⟩ => ⟨c', e, codeRec_hideT ⟨_, h51, hps⟩ r⟩
  walk_at "my steps"
  · exfalso; omega
  show wpAny _ _ (call (.ref 63) [.int _ _, .int _ _]) _ _ _
  have q1 : ((a : Int).fdiv (b : Int)) = ((a / b : Nat) : Int) := by rw [Int.fdiv_eq_ediv_of_nonneg _ (Int.natCast_nonneg _)]; rfl
  have q2 : ((a : Int).fmod (b : Int)) = ((a % b : Nat) : Int) := by rw [Int.fmod_eq_emod_of_nonneg _ (Int.natCast_nonneg _)]; rfl
  rw [q1, q2] at hret
  k_dflt (refine' dpos_use (ps := ps) G sg ?hd ?F ?N f44 ?U hps' ha hb0 hb ?_ ?_; (case hd => (show dp + 1 < 700; omega)); (case F => k_asm); (case N => k_asm); (case U => k_updF))
  · intro hne D8 h8 tk8 t1 t2 F8 N8 l8
    dsimp only [AllNe] at l8
    walk_at "my steps"
    all_goals (walk_at "my end")
    rename News _ _ _ _ => N9
    rename Fr _ _ _ _ => F9
    rcases hps with h9 | ⟨c9, rfl, hc9⟩
    · exact absurd h9 hne
    skip
    exact hret _ _ _ _ _ (keep_but F9) (TabStep.same h51 (News.get N9 (by k_mem)) ((codeRec_hideT ⟨_, h51, .inr ⟨c9, rfl, hc9⟩⟩ hc9).keeps (Fr.keep F9))) (fresh_hide (News.fresh N9 (List.Mem.head _)) (by first | exact Nat.ne_of_gt (by omega) | exact fun q => l8.1 q.symm)) (News.get N9 (List.Mem.head _))
  · intro he D8 h8 tk8 t1 t2 c8 oc8 us8 uq8 F8 N8 l8 l9 e8 g8
    dsimp only [AllNe] at l8 l9 N8
    walk_at "my steps"
    all_goals (walk_at "my end")
    rename News _ _ _ _ => N9
    rename Fr _ _ _ _ => F9
    subst he
    skip
    exact hret _ _ _ _ _ (keep_but F9) (TabStep.bare h51 (News.get N9 (by k_mem)) ⟨c8, oc8, us8, uq8, rfl, News.get N9 (by k_mem), e8, g8⟩ (News.fresh N9 (o := oc8) (by k_mem))) (fresh_hide (News.fresh N9 (List.Mem.head _)) (by first | exact Nat.ne_of_gt (by omega) | exact fun q => l8.1 q.symm)) (News.get N9 (List.Mem.head _))
theorem idm_neg (w : World) (a b : Nat) (ha : a < 4294967296) (ha0 : 0 < a) (hb0 : 0 < b) (hb : b < 2147483648) : IdmC w 500 (-a) b := by
  k_with_none
  k_with "my fold" => ((try (with_reducible refine GTurn.letG ?_; intro gk)); (try (show wpAny _ _ _ _ _ _; k_fold)))
  k_with "my steps" => (walk_at "my fold"; repeat' (first | (k_unfold; (try dsimp only)) | (k_end; wrow_close) | walk1 | (dsimp only; walk1) | (leave1; walk_say "STEP leave1"; try dsimp only) | fail "no step"))
  k_with "my pick" => first | with_reducible assumption | with_reducible exact And.left (by assumption) | with_reducible exact And.left (And.right (by assumption)) | with_reducible exact And.left (And.right (And.right (by assumption))) | with_reducible exact And.left (And.right (And.right (And.right (by assumption)))) | with_reducible exact And.left (And.right (And.right (And.right (And.right (by assumption))))) | with_reducible exact And.left (And.right (And.right (And.right (And.right (And.right (by assumption)))))) | with_reducible exact And.left (And.right (And.right (And.right (And.right (And.right (And.right (by assumption))))))) | with_reducible exact And.left (And.right (And.right (And.right (And.right (And.right (And.right (And.right (by assumption)))))))) | with_reducible exact And.left (And.right (And.right (And.right (And.right (And.right (And.right (And.right (And.right (by assumption))))))))) | with_reducible exact And.left (And.right (And.right (And.right (And.right (And.right (And.right (And.right (And.right (And.right (by assumption)))))))))) | with_reducible exact And.left (And.right (And.right (And.right (And.right (And.right (And.right (And.right (And.right (And.right (And.right (by assumption)))))))))))
  k_with "my ne" => first | exact Nat.ne_of_gt (by walk_at "my pick") | exact Nat.ne_of_lt (by walk_at "my pick") | walk_at "my pick" | exact Ne.symm (by walk_at "my pick")
  k_with "my kn" => (first | walk_at "my ne" | omega)
  k_with "my kne" => (refine neN ?_; (try dsimp only); walk_at "my kn")
  k_with "eval Name" => (k_here; k_dflt (refine' nameX_L ?Fw6 ?vw6 ?_ ?aw6 ?bw6; (case Fw6 => k_asm); (case aw6 => rfl); (case bw6 => rfl); (case vw6 => exact Eq.refl (some _)); k_whole))
  k_with "execs cons" => ((show wpAny _ _ _ _ _ _); k_fold)
  k_with "call builtin:max" => ((with_reducible show wpAny _ _ (call (Value.builtin "max") [Value.int _ _, Value.int _ _, Value.int _ _]) _ _ _); (with_unfolding_all refine' max3_N ?k0w8 ?k1w8 ?k2w8 ?_; (case k0w8 => rfl); (case k1w8 => k_asm); (case k2w8 => k_asm); k_whole); walk_at "my in5"; (try k_sweep))
  k_with "call builtin:min" => ((with_reducible show wpAny _ _ (call (Value.builtin "min") [Value.int _ _, Value.int _ _, Value.int _ _]) _ _ _); (with_unfolding_all refine' min3_N ?k0w9 ?k1w9 ?k2w9 ?_; (case k0w9 => rfl); (case k1w9 => k_asm); (case k2w9 => k_asm); k_whole); walk_at "my in5"; (try k_sweep))
  k_with "call builtin:list.append" => ((show wpAny _ _ (call (Value.builtin "list.append") [Value.ref _, _]) _ _ _); k_dflt (refine' append_K ?k1w10 ?k2w10 ?k3w10 ?_ ?zw10; (case k1w10 => k_asm); (case k2w10 => k_asm); (case k3w10 => k_upd); (case zw10 => size_fits); k_whole); walk_at "my in3"; (try k_sweep))
  k_with "my enter" => (k_dflt (refine' enter ?Xw11 ?Tw11 ?hdw11 ?how11 ?hcdw11 ?hbw11 ?hlw11 ?hcw11 ?c1w11 ?c2w11 ?c3w11 ?_; (case Xw11 => assumption); (case Tw11 => assumption); (case hdw11 => (show _ < 1000; omega)); (case how11 => k_is); (case hcdw11 => k_is); (case hbw11 => exact BindsTo.of_eq rfl); (case hlw11 => exact locs rfl); (case hcw11 => decide); (case c1w11 => rfl); (case c2w11 => rfl); (case c3w11 => rfl); k_whole); walk_at "my inL"; (try dsimp only); (try k_fold))
  k_with "my enterC" => (k_dflt (refine' enterC ?Xw12 ?Tw12 ?hdw12 ?how12 ?hcdw12 ?hbw12 ?hlw12 ?hnw12 ?c1w12 ?c2w12 ?c3w12 ?_; (case Xw12 => assumption); (case Tw12 => assumption); (case hdw12 => (show _ < 1000; omega)); (case how12 => k_is); (case hcdw12 => k_is); (case hbw12 => exact BindsTo.of_eq rfl); (case hlw12 => rfl); (case hnw12 => decide +kernel); (case c1w12 => rfl); (case c2w12 => rfl); (case c3w12 => rfl); k_whole); walk_at "my inC"; (try dsimp only); (try k_fold))
  k_with "my end" => ((try dsimp only); (try k_unfold); (try dsimp only))
  k_with "call builtin:list.extend" => ((show wpAny _ _ (call (Value.builtin "list.extend") [Value.ref _, Value.ref _]) _ _ _); k_dflt (refine' extend_my ?k1w14 ?k2w14 ?k3w14 ?k4w14 ?zw14 ?_; (case k1w14 => k_asm); (case k2w14 => k_asm); (case k3w14 => k_updF); (case k4w14 => k_mem); (case zw14 => (simp only [PySem.sizeLine_eq, List.length_append, List.length_cons, List.length_nil]; omega)); k_whole); walk_at "my inX"; (try k_sweep))
  k_with "my sub" => repeat (first | exact List.forall_mem_nil _ | (refine List.forall_mem_cons.mpr ⟨by k_mem, ?_⟩))
  k_with "my enterN" => (k_dflt (refine' enterN ?news ?Xw16 ?Tw16 ?Sw16 ?hn ?hdw16 ?how16 ?hcdw16 ?hbw16 ?hlw16 ?hcw16 ?c1w16 ?c2w16 ?c3w16 ?_; (case Xw16 => assumption); (case Tw16 => assumption); (case Sw16 => assumption); (case hdw16 => (show _ < 1000; omega)); (case how16 => k_is); (case hcdw16 => k_is); (case hbw16 => exact BindsTo.of_eq rfl); (case hlw16 => exact locs rfl); (case hcw16 => decide); (case c1w16 => rfl); (case c2w16 => rfl); (case c3w16 => rfl)))
  have q0 := neg_divmod ha0 hb0
  have hbne : ¬ ((b : Int) = 0) := by omega
  intro loose mean mg mb dp un fr gd s Q E g₀ ta tb G S hd h44 ht hret
  obtain ⟨X, T, C48, C55, n44, n51⟩ := id G
  w_on
  revert X; k_fill; intro X
  obtain ⟨ps, h51, hps⟩ := ht
  walk_at "my enterN"
  case news => exact [(51, tabObj ps)]
  case hn => (intro p hp; simp only [List.mem_singleton] at hp; subst hp; exact h51)
  intro L' h' F' N' l0
  dsimp only [List.map] at F' N'
  have sg := stays_hide1 S n51
  have X' := X.keeps sg
  have T' := T.keeps sg
  k_lt l0
  (try dsimp only)
  (try k_fold)
  have f44 : Full44 (hideAll s.heap [51]) := by
    obtain ⟨c, e1, e2⟩ := h44
    exact ⟨c, hide1_get e1 (by decide), codeRec_hideT ⟨_, h51, hps⟩ e2⟩
  have hps' : TabPs 88 4 q51 ps (hideAll s.heap [51]) := hps.imp id fun ⟨c', e, r⟩ => ⟨c', e, codeRec_hideT ⟨_, h51, hps⟩ r⟩
  walk_at "my steps"
  · exfalso; omega
  show wpAny _ _ (call (.ref 70) [.int _ _, .int _ _]) _ _ _
  rw [q0.1, q0.2] at hret
  rw [bitNot_neg ha0]
  k_dflt (refine' idm_use (ps := ps) (idm_pos w (a - 1) b (by omega) hb0 hb) G sg ?hd ?F ?N f44 ?U hps' ?_ ?_; (case hd => (show dp + 1 < 600; omega)); (case F => k_asm); (case N => k_asm); (case U => k_updF))
  · intro hne D8 h8 tk8 t1 t2 F8 N8 l8
    dsimp only [AllNe] at l8
    walk_at "my steps"
    all_goals (walk_at "my end")
    rename News _ _ _ _ => N9
    rename Fr _ _ _ _ => F9
    rcases hps with h9 | ⟨c9, rfl, hc9⟩
    · exact absurd h9 hne
    skip
    exact hret _ _ _ _ _ (keep_but F9) (TabStep.same h51 (News.get N9 (by k_mem)) ((codeRec_hideT ⟨_, h51, .inr ⟨c9, rfl, hc9⟩⟩ hc9).keeps (Fr.keep F9))) (fresh_hide (News.fresh N9 (List.Mem.head _)) (by first | exact Nat.ne_of_gt (by omega) | exact fun q => l8.1 q.symm)) (News.get N9 (List.Mem.head _))
  · intro he D8 h8 tk8 t1 t2 c8 oc8 us8 uq8 F8 N8 l8 l9 e8 g8
    dsimp only [AllNe] at l8 l9 N8
    walk_at "my steps"
    all_goals (walk_at "my end")
    rename News _ _ _ _ => N9
    rename Fr _ _ _ _ => F9
    subst he
    skip
    exact hret _ _ _ _ _ (keep_but F9) (TabStep.bare h51 (News.get N9 (by k_mem)) ⟨c8, oc8, us8, uq8, rfl, News.get N9 (by k_mem), e8, g8⟩ (News.fresh N9 (o := oc8) (by k_mem))) (fresh_hide (News.fresh N9 (List.Mem.head _)) (by first | exact Nat.ne_of_gt (by omega) | exact fun q => l8.1 q.symm)) (News.get N9 (List.Mem.head _))
theorem idm_up (w : World) (a : Int) (b : Nat) (ha : a.natAbs < 4294967296) (hb0 : 0 < b) (hb : b < 2147483648) : IdmC w 500 a b := by
  k_with_none
  k_with "my fold" => ((try (with_reducible refine GTurn.letG ?_; intro gk)); (try (show wpAny _ _ _ _ _ _; k_fold)))
  k_with "my steps" => (walk_at "my fold"; repeat' (first | (k_unfold; (try dsimp only)) | (k_end; wrow_close) | walk1 | (dsimp only; walk1) | (leave1; walk_say "STEP leave1"; try dsimp only) | fail "no step"))
  k_with "my pick" => first | with_reducible assumption | with_reducible exact And.left (by assumption) | with_reducible exact And.left (And.right (by assumption)) | with_reducible exact And.left (And.right (And.right (by assumption))) | with_reducible exact And.left (And.right (And.right (And.right (by assumption)))) | with_reducible exact And.left (And.right (And.right (And.right (And.right (by assumption))))) | with_reducible exact And.left (And.right (And.right (And.right (And.right (And.right (by assumption)))))) | with_reducible exact And.left (And.right (And.right (And.right (And.right (And.right (And.right (by assumption))))))) | with_reducible exact And.left (And.right (And.right (And.right (And.right (And.right (And.right (And.right (by assumption)))))))) | with_reducible exact And.left (And.right (And.right (And.right (And.right (And.right (And.right (And.right (And.right (by assumption))))))))) | with_reducible exact And.left (And.right (And.right (And.right (And.right (And.right (And.right (And.right (And.right (And.right (by assumption)))))))))) | with_reducible exact And.left (And.right (And.right (And.right (And.right (And.right (And.right (And.right (And.right (And.right (And.right (by assumption)))))))))))
  k_with "my ne" => first | exact Nat.ne_of_gt (by walk_at "my pick") | exact Nat.ne_of_lt (by walk_at "my pick") | walk_at "my pick" | exact Ne.symm (by walk_at "my pick")
  k_with "my kn" => (first | walk_at "my ne" | omega)
  k_with "my kne" => (refine neN ?_; (try dsimp only); walk_at "my kn")
  k_with "eval Name" => (k_here; k_dflt (refine' nameX_L ?Fw6 ?vw6 ?_ ?aw6 ?bw6; (case Fw6 => k_asm); (case aw6 => rfl); (case bw6 => rfl); (case vw6 => exact Eq.refl (some _)); k_whole))
  k_with "execs cons" => ((show wpAny _ _ _ _ _ _); k_fold)
  k_with "call builtin:max" => ((with_reducible show wpAny _ _ (call (Value.builtin "max") [Value.int _ _, Value.int _ _, Value.int _ _]) _ _ _); (with_unfolding_all refine' max3_N ?k0w8 ?k1w8 ?k2w8 ?_; (case k0w8 => rfl); (case k1w8 => k_asm); (case k2w8 => k_asm); k_whole); walk_at "my in5"; (try k_sweep))
  k_with "call builtin:min" => ((with_reducible show wpAny _ _ (call (Value.builtin "min") [Value.int _ _, Value.int _ _, Value.int _ _]) _ _ _); (with_unfolding_all refine' min3_N ?k0w9 ?k1w9 ?k2w9 ?_; (case k0w9 => rfl); (case k1w9 => k_asm); (case k2w9 => k_asm); k_whole); walk_at "my in5"; (try k_sweep))
  k_with "call builtin:list.append" => ((show wpAny _ _ (call (Value.builtin "list.append") [Value.ref _, _]) _ _ _); k_dflt (refine' append_K ?k1w10 ?k2w10 ?k3w10 ?_ ?zw10; (case k1w10 => k_asm); (case k2w10 => k_asm); (case k3w10 => k_upd); (case zw10 => size_fits); k_whole); walk_at "my in3"; (try k_sweep))
  k_with "my enter" => (k_dflt (refine' enter ?Xw11 ?Tw11 ?hdw11 ?how11 ?hcdw11 ?hbw11 ?hlw11 ?hcw11 ?c1w11 ?c2w11 ?c3w11 ?_; (case Xw11 => assumption); (case Tw11 => assumption); (case hdw11 => (show _ < 1000; omega)); (case how11 => k_is); (case hcdw11 => k_is); (case hbw11 => exact BindsTo.of_eq rfl); (case hlw11 => exact locs rfl); (case hcw11 => decide); (case c1w11 => rfl); (case c2w11 => rfl); (case c3w11 => rfl); k_whole); walk_at "my inL"; (try dsimp only); (try k_fold))
  k_with "my enterC" => (k_dflt (refine' enterC ?Xw12 ?Tw12 ?hdw12 ?how12 ?hcdw12 ?hbw12 ?hlw12 ?hnw12 ?c1w12 ?c2w12 ?c3w12 ?_; (case Xw12 => assumption); (case Tw12 => assumption); (case hdw12 => (show _ < 1000; omega)); (case how12 => k_is); (case hcdw12 => k_is); (case hbw12 => exact BindsTo.of_eq rfl); (case hlw12 => rfl); (case hnw12 => decide +kernel); (case c1w12 => rfl); (case c2w12 => rfl); (case c3w12 => rfl); k_whole); walk_at "my inC"; (try dsimp only); (try k_fold))
  k_with "my end" => ((try dsimp only); (try k_unfold); (try dsimp only))
  k_with "call builtin:list.extend" => ((show wpAny _ _ (call (Value.builtin "list.extend") [Value.ref _, Value.ref _]) _ _ _); k_dflt (refine' extend_my ?k1w14 ?k2w14 ?k3w14 ?k4w14 ?zw14 ?_; (case k1w14 => k_asm); (case k2w14 => k_asm); (case k3w14 => k_updF); (case k4w14 => k_mem); (case zw14 => (simp only [PySem.sizeLine_eq, List.length_append, List.length_cons, List.length_nil]; omega)); k_whole); walk_at "my inX"; (try k_sweep))
  k_with "my sub" => repeat (first | exact List.forall_mem_nil _ | (refine List.forall_mem_cons.mpr ⟨by k_mem, ?_⟩))
  k_with "my enterN" => (k_dflt (refine' enterN ?news ?Xw16 ?Tw16 ?Sw16 ?hn ?hdw16 ?how16 ?hcdw16 ?hbw16 ?hlw16 ?hcw16 ?c1w16 ?c2w16 ?c3w16 ?_; (case Xw16 => assumption); (case Tw16 => assumption); (case Sw16 => assumption); (case hdw16 => (show _ < 1000; omega)); (case how16 => k_is); (case hcdw16 => k_is); (case hbw16 => exact BindsTo.of_eq rfl); (case hlw16 => exact locs rfl); (case hcw16 => decide); (case c1w16 => rfl); (case c2w16 => rfl); (case c3w16 => rfl)))
  rcases Int.lt_or_le a 0 with h | h
  · have e : a = -((a.natAbs : Nat) : Int) := by omega
    rw [e]
    exact idm_neg w a.natAbs b (by omega) (by omega) hb0 hb
  · have e : a = ((a.natAbs : Nat) : Int) := by omega
    rw [e]
    exact (idm_pos w a.natAbs b (by omega) hb0 hb).mono (by decide)
theorem idm_down (w : World) (a b : Int) (ha : a.natAbs < 4294967296) (hb0 : b < 0) (hb : b.natAbs < 2147483648) : IdmC w 400 a b := by
  k_with_none
  k_with "my fold" => ((try (with_reducible refine GTurn.letG ?_; intro gk)); (try (show wpAny _ _ _ _ _ _; k_fold)))
  k_with "my steps" => (walk_at "my fold"; repeat' (first | (k_unfold; (try dsimp only)) | (k_end; wrow_close) | walk1 | (dsimp only; walk1) | (leave1; walk_say "STEP leave1"; try dsimp only) | fail "no step"))
  k_with "my pick" => first | with_reducible assumption | with_reducible exact And.left (by assumption) | with_reducible exact And.left (And.right (by assumption)) | with_reducible exact And.left (And.right (And.right (by assumption))) | with_reducible exact And.left (And.right (And.right (And.right (by assumption)))) | with_reducible exact And.left (And.right (And.right (And.right (And.right (by assumption))))) | with_reducible exact And.left (And.right (And.right (And.right (And.right (And.right (by assumption)))))) | with_reducible exact And.left (And.right (And.right (And.right (And.right (And.right (And.right (by assumption))))))) | with_reducible exact And.left (And.right (And.right (And.right (And.right (And.right (And.right (And.right (by assumption)))))))) | with_reducible exact And.left (And.right (And.right (And.right (And.right (And.right (And.right (And.right (And.right (by assumption))))))))) | with_reducible exact And.left (And.right (And.right (And.right (And.right (And.right (And.right (And.right (And.right (And.right (by assumption)))))))))) | with_reducible exact And.left (And.right (And.right (And.right (And.right (And.right (And.right (And.right (And.right (And.right (And.right (by assumption)))))))))))
  k_with "my ne" => first | exact Nat.ne_of_gt (by walk_at "my pick") | exact Nat.ne_of_lt (by walk_at "my pick") | walk_at "my pick" | exact Ne.symm (by walk_at "my pick")
  k_with "my kn" => (first | walk_at "my ne" | omega)
  k_with "my kne" => (refine neN ?_; (try dsimp only); walk_at "my kn")
  k_with "eval Name" => (k_here; k_dflt (refine' nameX_L ?Fw6 ?vw6 ?_ ?aw6 ?bw6; (case Fw6 => k_asm); (case aw6 => rfl); (case bw6 => rfl); (case vw6 => exact Eq.refl (some _)); k_whole))
  k_with "execs cons" => ((show wpAny _ _ _ _ _ _); k_fold)
  k_with "call builtin:max" => ((with_reducible show wpAny _ _ (call (Value.builtin "max") [Value.int _ _, Value.int _ _, Value.int _ _]) _ _ _); (with_unfolding_all refine' max3_N ?k0w8 ?k1w8 ?k2w8 ?_; (case k0w8 => rfl); (case k1w8 => k_asm); (case k2w8 => k_asm); k_whole); walk_at "my in5"; (try k_sweep))
  k_with "call builtin:min" => ((with_reducible show wpAny _ _ (call (Value.builtin "min") [Value.int _ _, Value.int _ _, Value.int _ _]) _ _ _); (with_unfolding_all refine' min3_N ?k0w9 ?k1w9 ?k2w9 ?_; (case k0w9 => rfl); (case k1w9 => k_asm); (case k2w9 => k_asm); k_whole); walk_at "my in5"; (try k_sweep))
  k_with "call builtin:list.append" => ((show wpAny _ _ (call (Value.builtin "list.append") [Value.ref _, _]) _ _ _); k_dflt (refine' append_K ?k1w10 ?k2w10 ?k3w10 ?_ ?zw10; (case k1w10 => k_asm); (case k2w10 => k_asm); (case k3w10 => k_upd); (case zw10 => size_fits); k_whole); walk_at "my in3"; (try k_sweep))
  k_with "my enter" => (k_dflt (refine' enter ?Xw11 ?Tw11 ?hdw11 ?how11 ?hcdw11 ?hbw11 ?hlw11 ?hcw11 ?c1w11 ?c2w11 ?c3w11 ?_; (case Xw11 => assumption); (case Tw11 => assumption); (case hdw11 => (show _ < 1000; omega)); (case how11 => k_is); (case hcdw11 => k_is); (case hbw11 => exact BindsTo.of_eq rfl); (case hlw11 => exact locs rfl); (case hcw11 => decide); (case c1w11 => rfl); (case c2w11 => rfl); (case c3w11 => rfl); k_whole); walk_at "my inL"; (try dsimp only); (try k_fold))
  k_with "my enterC" => (k_dflt (refine' enterC ?Xw12 ?Tw12 ?hdw12 ?how12 ?hcdw12 ?hbw12 ?hlw12 ?hnw12 ?c1w12 ?c2w12 ?c3w12 ?_; (case Xw12 => assumption); (case Tw12 => assumption); (case hdw12 => (show _ < 1000; omega)); (case how12 => k_is); (case hcdw12 => k_is); (case hbw12 => exact BindsTo.of_eq rfl); (case hlw12 => rfl); (case hnw12 => decide +kernel); (case c1w12 => rfl); (case c2w12 => rfl); (case c3w12 => rfl); k_whole); walk_at "my inC"; (try dsimp only); (try k_fold))
  k_with "my end" => ((try dsimp only); (try k_unfold); (try dsimp only))
  k_with "call builtin:list.extend" => ((show wpAny _ _ (call (Value.builtin "list.extend") [Value.ref _, Value.ref _]) _ _ _); k_dflt (refine' extend_my ?k1w14 ?k2w14 ?k3w14 ?k4w14 ?zw14 ?_; (case k1w14 => k_asm); (case k2w14 => k_asm); (case k3w14 => k_updF); (case k4w14 => k_mem); (case zw14 => (simp only [PySem.sizeLine_eq, List.length_append, List.length_cons, List.length_nil]; omega)); k_whole); walk_at "my inX"; (try k_sweep))
  k_with "my sub" => repeat (first | exact List.forall_mem_nil _ | (refine List.forall_mem_cons.mpr ⟨by k_mem, ?_⟩))
  k_with "my enterN" => (k_dflt (refine' enterN ?news ?Xw16 ?Tw16 ?Sw16 ?hn ?hdw16 ?how16 ?hcdw16 ?hbw16 ?hlw16 ?hcw16 ?c1w16 ?c2w16 ?c3w16 ?_; (case Xw16 => assumption); (case Tw16 => assumption); (case Sw16 => assumption); (case hdw16 => (show _ < 1000; omega)); (case how16 => k_is); (case hcdw16 => k_is); (case hbw16 => exact BindsTo.of_eq rfl); (case hlw16 => exact locs rfl); (case hcw16 => decide); (case c1w16 => rfl); (case c2w16 => rfl); (case c3w16 => rfl)))
  have q0 := neg_neg_divmod a b
  have hbne : ¬ ((b : Int) = 0) := by omega
  intro loose mean mg mb dp un fr gd s Q E g₀ ta tb G S hd h44 ht hret
  obtain ⟨X, T, C48, C55, n44, n51⟩ := id G
  w_on
  revert X; k_fill; intro X
  obtain ⟨ps, h51, hps⟩ := ht
  walk_at "my enterN"
  case news => exact [(51, tabObj ps)]
  case hn => (intro p hp; simp only [List.mem_singleton] at hp; subst hp; exact h51)
  intro L' h' F' N' l0
  dsimp only [List.map] at F' N'
  have sg := stays_hide1 S n51
  have X' := X.keeps sg
  have T' := T.keeps sg
  k_lt l0
  (try dsimp only)
  (try k_fold)
  have f44 : Full44 (hideAll s.heap [51]) := by
    obtain ⟨c, e1, e2⟩ := h44
    exact ⟨c, hide1_get e1 (by decide), codeRec_hideT ⟨_, h51, hps⟩ e2⟩
  have hps' : TabPs 88 4 q51 ps (hideAll s.heap [51]) := hps.imp id fun ⟨c', e, r⟩ => ⟨c', e, codeRec_hideT ⟨_, h51, hps⟩ r⟩
  walk_at "my steps"
  · exfalso; omega
  show wpAny _ _ (call (.ref 70) [.int _ _, .int _ _]) _ _ _
  rw [q0.1, q0.2] at hret
  have eb : -b = ((b.natAbs : Nat) : Int) := by omega
  rw [eb] at hret ⊢
  k_dflt (refine' idm_use (ps := ps) (idm_up w (-a) b.natAbs (by omega) (by omega) hb) G sg ?hd ?F ?N f44 ?U hps' ?_ ?_; (case hd => (show dp + 1 < 500; omega)); (case F => k_asm); (case N => k_asm); (case U => k_updF))
  · intro hne D8 h8 tk8 t1 t2 F8 N8 l8
    dsimp only [AllNe] at l8
    walk_at "my steps"
    all_goals (walk_at "my end")
    rename News _ _ _ _ => N9
    rename Fr _ _ _ _ => F9
    rcases hps with h9 | ⟨c9, rfl, hc9⟩
    · exact absurd h9 hne
    skip
    exact hret _ _ _ _ _ (keep_but F9) (TabStep.same h51 (News.get N9 (by k_mem)) ((codeRec_hideT ⟨_, h51, .inr ⟨c9, rfl, hc9⟩⟩ hc9).keeps (Fr.keep F9))) (fresh_hide (News.fresh N9 (List.Mem.head _)) (by first | exact Nat.ne_of_gt (by omega) | exact fun q => l8.1 q.symm)) (News.get N9 (List.Mem.head _))
  · intro he D8 h8 tk8 t1 t2 c8 oc8 us8 uq8 F8 N8 l8 l9 e8 g8
    dsimp only [AllNe] at l8 l9 N8
    walk_at "my steps"
    all_goals (walk_at "my end")
    rename News _ _ _ _ => N9
    rename Fr _ _ _ _ => F9
    subst he
    skip
    exact hret _ _ _ _ _ (keep_but F9) (TabStep.bare h51 (News.get N9 (by k_mem)) ⟨c8, oc8, us8, uq8, rfl, News.get N9 (by k_mem), e8, g8⟩ (News.fresh N9 (o := oc8) (by k_mem))) (fresh_hide (News.fresh N9 (List.Mem.head _)) (by first | exact Nat.ne_of_gt (by omega) | exact fun q => l8.1 q.symm)) (News.get N9 (List.Mem.head _))
theorem idm_call (w : World) (a b : Int) (ha : a.natAbs < 4294967296) (hb0 : b ≠ 0) (hb : b.natAbs < 2147483648) : IdmC w 400 a b := by
  k_with_none
  k_with "my fold" => ((try (with_reducible refine GTurn.letG ?_; intro gk)); (try (show wpAny _ _ _ _ _ _; k_fold)))
  k_with "my steps" => (walk_at "my fold"; repeat' (first | (k_unfold; (try dsimp only)) | (k_end; wrow_close) | walk1 | (dsimp only; walk1) | (leave1; walk_say "STEP leave1"; try dsimp only) | fail "no step"))
  k_with "my pick" => first | with_reducible assumption | with_reducible exact And.left (by assumption) | with_reducible exact And.left (And.right (by assumption)) | with_reducible exact And.left (And.right (And.right (by assumption))) | with_reducible exact And.left (And.right (And.right (And.right (by assumption)))) | with_reducible exact And.left (And.right (And.right (And.right (And.right (by assumption))))) | with_reducible exact And.left (And.right (And.right (And.right (And.right (And.right (by assumption)))))) | with_reducible exact And.left (And.right (And.right (And.right (And.right (And.right (And.right (by assumption))))))) | with_reducible exact And.left (And.right (And.right (And.right (And.right (And.right (And.right (And.right (by assumption)))))))) | with_reducible exact And.left (And.right (And.right (And.right (And.right (And.right (And.right (And.right (And.right (by assumption))))))))) | with_reducible exact And.left (And.right (And.right (And.right (And.right (And.right (And.right (And.right (And.right (And.right (by assumption)))))))))) | with_reducible exact And.left (And.right (And.right (And.right (And.right (And.right (And.right (And.right (And.right (And.right (And.right (by assumption)))))))))))
  k_with "my ne" => first | exact Nat.ne_of_gt (by walk_at "my pick") | exact Nat.ne_of_lt (by walk_at "my pick") | walk_at "my pick" | exact Ne.symm (by walk_at "my pick")
  k_with "my kn" => (first | walk_at "my ne" | omega)
  k_with "my kne" => (refine neN ?_; (try dsimp only); walk_at "my kn")
  k_with "eval Name" => (k_here; k_dflt (refine' nameX_L ?Fw6 ?vw6 ?_ ?aw6 ?bw6; (case Fw6 => k_asm); (case aw6 => rfl); (case bw6 => rfl); (case vw6 => exact Eq.refl (some _)); k_whole))
  k_with "execs cons" => ((show wpAny _ _ _ _ _ _); k_fold)
  k_with "call builtin:max" => ((with_reducible show wpAny _ _ (call (Value.builtin "max") [Value.int _ _, Value.int _ _, Value.int _ _]) _ _ _); (with_unfolding_all refine' max3_N ?k0w8 ?k1w8 ?k2w8 ?_; (case k0w8 => rfl); (case k1w8 => k_asm); (case k2w8 => k_asm); k_whole); walk_at "my in5"; (try k_sweep))
  k_with "call builtin:min" => ((with_reducible show wpAny _ _ (call (Value.builtin "min") [Value.int _ _, Value.int _ _, Value.int _ _]) _ _ _); (with_unfolding_all refine' min3_N ?k0w9 ?k1w9 ?k2w9 ?_; (case k0w9 => rfl); (case k1w9 => k_asm); (case k2w9 => k_asm); k_whole); walk_at "my in5"; (try k_sweep))
  k_with "call builtin:list.append" => ((show wpAny _ _ (call (Value.builtin "list.append") [Value.ref _, _]) _ _ _); k_dflt (refine' append_K ?k1w10 ?k2w10 ?k3w10 ?_ ?zw10; (case k1w10 => k_asm); (case k2w10 => k_asm); (case k3w10 => k_upd); (case zw10 => size_fits); k_whole); walk_at "my in3"; (try k_sweep))
  k_with "my enter" => (k_dflt (refine' enter ?Xw11 ?Tw11 ?hdw11 ?how11 ?hcdw11 ?hbw11 ?hlw11 ?hcw11 ?c1w11 ?c2w11 ?c3w11 ?_; (case Xw11 => assumption); (case Tw11 => assumption); (case hdw11 => (show _ < 1000; omega)); (case how11 => k_is); (case hcdw11 => k_is); (case hbw11 => exact BindsTo.of_eq rfl); (case hlw11 => exact locs rfl); (case hcw11 => decide); (case c1w11 => rfl); (case c2w11 => rfl); (case c3w11 => rfl); k_whole); walk_at "my inL"; (try dsimp only); (try k_fold))
  k_with "my enterC" => (k_dflt (refine' enterC ?Xw12 ?Tw12 ?hdw12 ?how12 ?hcdw12 ?hbw12 ?hlw12 ?hnw12 ?c1w12 ?c2w12 ?c3w12 ?_; (case Xw12 => assumption); (case Tw12 => assumption); (case hdw12 => (show _ < 1000; omega)); (case how12 => k_is); (case hcdw12 => k_is); (case hbw12 => exact BindsTo.of_eq rfl); (case hlw12 => rfl); (case hnw12 => decide +kernel); (case c1w12 => rfl); (case c2w12 => rfl); (case c3w12 => rfl); k_whole); walk_at "my inC"; (try dsimp only); (try k_fold))
  k_with "my end" => ((try dsimp only); (try k_unfold); (try dsimp only))
  k_with "call builtin:list.extend" => ((show wpAny _ _ (call (Value.builtin "list.extend") [Value.ref _, Value.ref _]) _ _ _); k_dflt (refine' extend_my ?k1w14 ?k2w14 ?k3w14 ?k4w14 ?zw14 ?_; (case k1w14 => k_asm); (case k2w14 => k_asm); (case k3w14 => k_updF); (case k4w14 => k_mem); (case zw14 => (simp only [PySem.sizeLine_eq, List.length_append, List.length_cons, List.length_nil]; omega)); k_whole); walk_at "my inX"; (try k_sweep))
  k_with "my sub" => repeat (first | exact List.forall_mem_nil _ | (refine List.forall_mem_cons.mpr ⟨by k_mem, ?_⟩))
  k_with "my enterN" => (k_dflt (refine' enterN ?news ?Xw16 ?Tw16 ?Sw16 ?hn ?hdw16 ?how16 ?hcdw16 ?hbw16 ?hlw16 ?hcw16 ?c1w16 ?c2w16 ?c3w16 ?_; (case Xw16 => assumption); (case Tw16 => assumption); (case Sw16 => assumption); (case hdw16 => (show _ < 1000; omega)); (case how16 => k_is); (case hcdw16 => k_is); (case hbw16 => exact BindsTo.of_eq rfl); (case hlw16 => exact locs rfl); (case hcw16 => decide); (case c1w16 => rfl); (case c2w16 => rfl); (case c3w16 => rfl)))
  rcases Int.lt_or_le b 0 with h | h
  · exact idm_down w a b ha h hb
  · have e : b = ((b.natAbs : Nat) : Int) := by omega
    rw [e]
    exact (idm_up w a b.natAbs ha (by omega) hb).mono (by decide)
end
section
open PySem PySem.W PyProof.Rows PySem.Calls PySem.Spec
set_option Elab.async false
set_option maxRecDepth 100000
set_option maxHeartbeats 1000000
section
/-- an iterator over the list l, ahead of place i -/
noncomputable def ItO (o : Obj) (l : Addr) (i : Nat) : Prop := o.cls = .type "list_iterator" ∧ o.data = .fields #[.ref l, .int i 0]
theorem ItO.at {h : Heap} {it l : Addr} {i : Nat} {o : Obj} (x : ItO o l i) (e : h.get? it = some o) : h.IsListIter it l i := ⟨o, e, x.1, x.2⟩
section
variable {prog : Program} {w : World} {A : Around} {E : Value → Shared → Prop} {s : Shared} {h₀ : Heap} {L l it : Addr} {m : Str → Option Value} {news : List (Addr × Obj)} {g : Obj → List (Addr × Obj)} {io : Obj} {i : Nat} {items : Array Value} {x : Value}
theorem iter_my {Q : Value → Shared → Prop} (F : Fr h₀ L s.heap m) (N : News h₀ L s.heap news) (hl : s.heap.IsList l items)
    (h : ∀ (I : Addr) h' oI, Fr h₀ L h' m → News h₀ L h' ((I, oI) :: news) → (∀ p ∈ news, p.1 < I) → ItO oI l 0 → Q (.ref I) { s with heap := h' }) :
    wpAny (model prog w) A (call (.builtin "iter") [.ref l]) Q E s := by
  refine call_function_entry (by decide +kernel) (by decide +kernel) kdk_entry_iter (kdk_args_iter _) ?_
  unfold Builtin.«iter»
  refine wpAny_bind (m := someArgs "iter" 1 2 _) (wpAny_of_eq (a := [Value.ref l]) (by first | rfl | kernel_rfl!) ?_)
  show wpAny _ _ (pyIter (.ref l) >>= _) _ _ _
  refine wpAny_bind (wpAny_pyIter_list hl ?_)
  exact wpAny_pure ⟨_, rfl, h _ _ _ (F.push _) (News.push F N _ rfl) (fun q hq => Heap.lt_size (N q hq).1) ⟨rfl, rfl⟩⟩
theorem next_special {Q : Option Value → Shared → Prop} (hit : s.heap.IsListIter it l i) (hl : s.heap.IsList l items) (hx : items[i]? = some x)
    (hQ : ∀ h', h'.IsListIter it l (i + 1) → Heap.SameBut it s.heap h' → Q (some x) { s with heap := h' }) :
    wpAny (model prog w) A (callSpecial? (.ref it) (Str.ofString "__next__")) Q E s := by
  obtain ⟨o, ho, hc, hd⟩ := id hit
  obtain ⟨ol, hol, _, nl, hdl⟩ := hl
  refine wpAny_callSpecial?_slot (name := Str.ofString "__next__") hit.typeIs slot_listiter_next
    (wpAny_call_entry slot_listiter_next hit.typeIs entry_listiter_next ?_ (args_listiter_next _))
  show wpAny _ _ (field (.ref it) 0 >>= _) _ _ s
  refine wpAny_bind (wpAny_field ho hd (x := .ref l) rfl ?_)
  show wpAny _ _ (if (Value.ref l == Value.none) = true then _ else _) _ _ s
  rw [if_neg (show ¬ ((Value.ref l == Value.none) = true) from Bool.false_ne_true)]
  show wpAny _ _ (field (.ref it) 1 >>= _) _ _ s
  refine wpAny_bind (wpAny_field ho hd (x := .int i 0) rfl ?_)
  show wpAny _ _ (seqItems? (.ref l) >>= _) _ _ s
  refine wpAny_bind (wpAny_seqItems hol hdl ?_)
  simp only [Int.toNat_natCast, hx]
  refine wpAny_bind (wpAny_setField ho hd (by simp) (wpAny_pure ⟨x, rfl, hQ _ ?_ (Heap.SameBut.update ..)⟩))
  exact ⟨_, Heap.get?_update_self _ ho (Obj.isFreed_of_fields (Obj.data_mapFields hd _)), (Obj.cls_mapFields ..).trans hc, by
    rw [Obj.data_mapFields hd]; simp [rawInt]⟩
theorem next_my {Q : Value → Shared → Prop} (F : Fr h₀ L s.heap m) (N : News h₀ L s.heap news) (U : UpdF it io news g) (hi : ItO io l i) (hl : s.heap.IsList l items) (hx : items[i]? = some x)
    (h : ∀ h' o', Fr h₀ L h' m → News h₀ L h' (g o') → ItO o' l (i + 1) → Q x { s with heap := h' }) :
    wpAny (model prog w) A (call (.builtin "next") [.ref it]) Q E s := by
  obtain ⟨pre, post, hl', hg, a, b⟩ := U.split
  have hmem : (it, io) ∈ news := by rw [hl']; exact List.mem_append_right _ (.head _)
  have hm := N (it, io) hmem
  have hit := hi.at hm.1
  refine call_function_entry (by decide +kernel) (by decide +kernel) kdk_entry_next (kdk_args_next _) ?_
  unfold Builtin.«next»
  refine wpAny_bind (m := someArgs "next" 1 2 _) (wpAny_of_eq (a := [Value.ref it]) (by first | rfl | kernel_rfl!) ?_)
  dsimp only
  refine wpAny_bind (wpAny_specialOf (name := Str.ofString "__next__") hit.typeIs slot_listiter_next.lookup ?_)
  refine wpAny_ite_split (fun hab => absurd hab (by decide)) (fun _ => ?_)
  refine wpAny_bind (next_special hit hl hx fun h' hit' hs => ?_)
  obtain ⟨o', ho', hc', hd'⟩ := hit'
  exact wpAny_pure ⟨_, rfl, h h' o' (F.change hs hm.2.1 hm.2.2) (hg o' ▸ (show News h₀ L s.heap (pre ++ (it, io) :: post) from hl' ▸ N).setIn a b hs ho') ⟨hc', hd'⟩⟩
/-- at the end of the list it raises -/
theorem next_stop {Q : Value → Shared → Prop} (hh : A.handled = none) (hi : s.heap.IsListIter it l i) (hl : s.heap.IsList l items) (hx : items[i]? = none)
    (h : ∀ h' e, (∀ b o, b ≠ it → s.heap.get? b = some o → h'.get? b = some o) → s.heap.get? e = none → (∃ oe vs t, h'.get? e = some oe ∧ oe.cls = .type "StopIteration" ∧ oe.data = .fields vs ∧ vs[0]? = some (.ref t) ∧ vs[1]? = some .none) → E (.ref e) { s with heap := h' }) :
    wpAny (model prog w) A (call (.builtin "next") [.ref it]) Q E s := by
  refine call_function_entry (by decide +kernel) (by decide +kernel) kdk_entry_next (kdk_args_next _) ?_
  unfold Builtin.«next»
  refine wpAny_bind (m := someArgs "next" 1 2 _) (wpAny_of_eq (a := [Value.ref it]) (by first | rfl | kernel_rfl!) ?_)
  dsimp only
  refine wpAny_bind (wpAny_specialOf (name := Str.ofString "__next__") hi.typeIs slot_listiter_next.lookup ?_)
  refine wpAny_ite_split (fun hab => absurd hab (by decide)) (fun _ => ?_)
  refine wpAny_bind ?_
  obtain ⟨o, ho, hc, hd⟩ := id hi
  obtain ⟨ol, hol, _, nl, hdl⟩ := hl
  refine wpAny_callSpecial?_slot (name := Str.ofString "__next__") hi.typeIs slot_listiter_next
    (wpAny_call_entry slot_listiter_next hi.typeIs entry_listiter_next ?_ (args_listiter_next _))
  show wpAny _ _ (field (.ref it) 0 >>= _) _ _ s
  refine wpAny_bind (wpAny_field ho hd (x := .ref l) rfl ?_)
  show wpAny _ _ (if (Value.ref l == Value.none) = true then _ else _) _ _ s
  rw [if_neg (show ¬ ((Value.ref l == Value.none) = true) from Bool.false_ne_true)]
  show wpAny _ _ (field (.ref it) 1 >>= _) _ _ s
  refine wpAny_bind (wpAny_field ho hd (x := .int i 0) rfl ?_)
  show wpAny _ _ (seqItems? (.ref l) >>= _) _ _ s
  refine wpAny_bind (wpAny_seqItems hol hdl ?_)
  simp only [Int.toNat_natCast, hx]
  refine wpAny_bind (wpAny_rule (wpAny_bind (wpAny_setField ho hd (by simp) ?_)))
  show wpAny _ _ (newExc (.type "StopIteration") [] >>= _) _ _ _
  refine wpAny_bind ?_
  simp only [newExc, newTuple]
  refine wpAny_bind (wpAny_newObj_type ?_ (by size_fits))
  refine wpAny_bind (m := firstArgMember _ _) (wpAny_of_eq (a := Value.none) (by first | rfl | (simp only [firstArgMember]; rfl)) ?_)
  refine wpAny_newObj_type ?_ (by size_fits)
  simp only [raiseNew]
  refine wpAny_bind (wpAny_handled ?_)
  rw [show A.in1.handled = none from hh]
  refine wpAny_bind (wpAny_pure (wpAny_throw ?_))
  have hlt := Heap.lt_size ho
  refine h _ _ (fun b o' hb e => ?_) ?_ ⟨_, _, _, Heap.get?_push_size _ rfl, rfl, rfl, rfl, rfl⟩
  · exact Heap.get?_push_of_some _ (Heap.get?_push_of_some _ ((Heap.get?_update_other _ _ (Ne.symm hb)).trans e))
  · refine Heap.get?_none_of_le ?_
    simp [Heap.size_push]
end
end
section
section
variable {prog : Program} {w : World} {A : Around} {E : Value → Shared → Prop} {s : Shared} {Q : Value → Shared → Prop} {b x c : Int} {t u : Tok}
theorem and_63 (h0 : 0 ≤ b) (h : Q (.int (b % 64) s.toks) { s with toks := s.toks + 1 }) : wpAny (model prog w) A (binaryOp .BitAnd (.int b t) (.int 63 u)) Q E s := by
  refine and_int ?_
  rw [and63 h0]; exact h
theorem and_64hi (h0 : 64 ≤ b) (h1 : b < 128) (h : Q (.int 64 s.toks) { s with toks := s.toks + 1 }) : wpAny (model prog w) A (binaryOp .BitAnd (.int b t) (.int 64 u)) Q E s := by
  refine and_int ?_
  rw [and64 (by omega) h1, if_pos h0]; exact h
theorem and_64lo (h0 : 0 ≤ b) (h1 : b < 64) (h : Q (.int 0 s.toks) { s with toks := s.toks + 1 }) : wpAny (model prog w) A (binaryOp .BitAnd (.int b t) (.int 64 u)) Q E s := by
  refine and_int ?_
  rw [and64 h0 (by omega), if_neg (by omega)]; exact h
theorem ior_low (h0 : 0 ≤ x) (h1 : 0 ≤ c) (h : Q (.int (x * 64 + c % 64) s.toks) { s with toks := s.toks + 1 }) : wpAny (model prog w) A (inplaceOp .BitOr (.int (x * 64) t) (.int (c % 64) u)) Q E s := by
  refine ior_int ?_
  rw [or_low h0 h1]; exact h
theorem ilsh_6 (h0 : 0 ≤ x) (h1 : x < 4294967296) (h : Q (.int (x * 64) s.toks) { s with toks := s.toks + 1 }) : wpAny (model prog w) A (inplaceOp .LShift (.int x t) (.int 6 u)) Q E s := by
  refine ilshift_int_small (by decide) (by decide) (by omega) ?_
  exact h
end
end
end
section
theorem varint_call (w : World) (loose : List Str) (mean : ExcName → Option Value) (mg mb : Str → Option Value) (dp un : Nat) (fr : Option (List Env)) (gd : Option (List Code)) (s : Shared)
    (Q E : Value → Shared → Prop) (g₀ : Heap) (X : (Mine.hk.heap_1 w.params).In g₀) (T : Top topProg loose mean mg mb g₀) (S : g₀.StaysIn s.heap) (hd : dp < 900)
    (it l : Addr) (io : Obj) (i : Nat) (vs : List Value) (ms post : List Int) (c v : Int) (r : List Int) (hit0 : g₀.get? it = none)
    (hit : s.heap.get? it = some io) (hio : ItO io l i) (hL : s.heap.IsList l vs.toArray) (hI : IntsAre vs ms)
    (hdrop : ms.drop i = c :: (r ++ post)) (hg : Grp (c :: r)) (hv : gv 0 (c :: r) = v) (hl : v < 4294967296)
    (hret : ∀ h' tk' t io', (∀ b o, b ≠ it → s.heap.get? b = some o → h'.get? b = some o) → h'.get? it = some io' → ItO io' l (i + (r.length + 1)) → Q (.int v t) { s with heap := h', toks := tk' }) :
    wpAny (model PySem.Challenge.rw_rl0058_01.row.prog w) (AA dp fr gd un) (call (.ref 77) [.ref it]) Q E s := by
  k_with_none
  k_with "my fold" => ((try (with_reducible refine GTurn.letG ?_; intro gk)); (try (show wpAny _ _ _ _ _ _; k_fold)))
  k_with "my steps" => (walk_at "my fold"; repeat' (first | (k_unfold; (try dsimp only)) | (k_end; wrow_close) | walk1 | (dsimp only; walk1) | (leave1; walk_say "STEP leave1"; try dsimp only) | fail "no step"))
  k_with "my pick" => first | with_reducible assumption | with_reducible exact And.left (by assumption) | with_reducible exact And.left (And.right (by assumption)) | with_reducible exact And.left (And.right (And.right (by assumption))) | with_reducible exact And.left (And.right (And.right (And.right (by assumption)))) | with_reducible exact And.left (And.right (And.right (And.right (And.right (by assumption))))) | with_reducible exact And.left (And.right (And.right (And.right (And.right (And.right (by assumption)))))) | with_reducible exact And.left (And.right (And.right (And.right (And.right (And.right (And.right (by assumption))))))) | with_reducible exact And.left (And.right (And.right (And.right (And.right (And.right (And.right (And.right (by assumption)))))))) | with_reducible exact And.left (And.right (And.right (And.right (And.right (And.right (And.right (And.right (And.right (by assumption))))))))) | with_reducible exact And.left (And.right (And.right (And.right (And.right (And.right (And.right (And.right (And.right (And.right (by assumption)))))))))) | with_reducible exact And.left (And.right (And.right (And.right (And.right (And.right (And.right (And.right (And.right (And.right (And.right (by assumption)))))))))))
  k_with "my ne" => first | exact Nat.ne_of_gt (by walk_at "my pick") | exact Nat.ne_of_lt (by walk_at "my pick") | walk_at "my pick" | exact Ne.symm (by walk_at "my pick")
  k_with "my kn" => (first | walk_at "my ne" | omega)
  k_with "my kne" => (refine neN ?_; (try dsimp only); walk_at "my kn")
  k_with "eval Name" => (k_here; k_dflt (refine' nameX_L ?Fw6 ?vw6 ?_ ?aw6 ?bw6; (case Fw6 => k_asm); (case aw6 => rfl); (case bw6 => rfl); (case vw6 => exact Eq.refl (some _)); k_whole))
  k_with "execs cons" => ((show wpAny _ _ _ _ _ _); k_fold)
  k_with "call builtin:max" => ((with_reducible show wpAny _ _ (call (Value.builtin "max") [Value.int _ _, Value.int _ _, Value.int _ _]) _ _ _); (with_unfolding_all refine' max3_N ?k0w8 ?k1w8 ?k2w8 ?_; (case k0w8 => rfl); (case k1w8 => k_asm); (case k2w8 => k_asm); k_whole); walk_at "my in5"; (try k_sweep))
  k_with "call builtin:min" => ((with_reducible show wpAny _ _ (call (Value.builtin "min") [Value.int _ _, Value.int _ _, Value.int _ _]) _ _ _); (with_unfolding_all refine' min3_N ?k0w9 ?k1w9 ?k2w9 ?_; (case k0w9 => rfl); (case k1w9 => k_asm); (case k2w9 => k_asm); k_whole); walk_at "my in5"; (try k_sweep))
  k_with "call builtin:list.append" => ((show wpAny _ _ (call (Value.builtin "list.append") [Value.ref _, _]) _ _ _); k_dflt (refine' append_K ?k1w10 ?k2w10 ?k3w10 ?_ ?zw10; (case k1w10 => k_asm); (case k2w10 => k_asm); (case k3w10 => k_upd); (case zw10 => size_fits); k_whole); walk_at "my in3"; (try k_sweep))
  k_with "my enter" => (k_dflt (refine' enter ?Xw11 ?Tw11 ?hdw11 ?how11 ?hcdw11 ?hbw11 ?hlw11 ?hcw11 ?c1w11 ?c2w11 ?c3w11 ?_; (case Xw11 => assumption); (case Tw11 => assumption); (case hdw11 => (show _ < 1000; omega)); (case how11 => k_is); (case hcdw11 => k_is); (case hbw11 => exact BindsTo.of_eq rfl); (case hlw11 => exact locs rfl); (case hcw11 => decide); (case c1w11 => rfl); (case c2w11 => rfl); (case c3w11 => rfl); k_whole); walk_at "my inL"; (try dsimp only); (try k_fold))
  k_with "my enterC" => (k_dflt (refine' enterC ?Xw12 ?Tw12 ?hdw12 ?how12 ?hcdw12 ?hbw12 ?hlw12 ?hnw12 ?c1w12 ?c2w12 ?c3w12 ?_; (case Xw12 => assumption); (case Tw12 => assumption); (case hdw12 => (show _ < 1000; omega)); (case how12 => k_is); (case hcdw12 => k_is); (case hbw12 => exact BindsTo.of_eq rfl); (case hlw12 => rfl); (case hnw12 => decide +kernel); (case c1w12 => rfl); (case c2w12 => rfl); (case c3w12 => rfl); k_whole); walk_at "my inC"; (try dsimp only); (try k_fold))
  k_with "my end" => ((try dsimp only); (try k_unfold); (try dsimp only))
  k_with "call builtin:list.extend" => ((show wpAny _ _ (call (Value.builtin "list.extend") [Value.ref _, Value.ref _]) _ _ _); k_dflt (refine' extend_my ?k1w14 ?k2w14 ?k3w14 ?k4w14 ?zw14 ?_; (case k1w14 => k_asm); (case k2w14 => k_asm); (case k3w14 => k_updF); (case k4w14 => k_mem); (case zw14 => (simp only [PySem.sizeLine_eq, List.length_append, List.length_cons, List.length_nil]; omega)); k_whole); walk_at "my inX"; (try k_sweep))
  k_with "my sub" => repeat (first | exact List.forall_mem_nil _ | (refine List.forall_mem_cons.mpr ⟨by k_mem, ?_⟩))
  k_with "binaryOp BitAnd int int" => ((with_reducible show wpAny _ _ (binaryOp _ (Value.int _ _) (Value.int 64 _)) _ _ _); k_dflt (first | (refine' and_64hi ?hw16 ?kw16 ?_; (case hw16 => omega); (case kw16 => omega)) | (refine' and_64lo ?hw16 ?kw16 ?_; (case hw16 => omega); (case kw16 => omega))))
  k_with "binaryOp BitAnd int int" => ((with_reducible show wpAny _ _ (binaryOp _ (Value.int _ _) (Value.int 63 _)) _ _ _); k_dflt (refine' and_63 ?hw17 ?_; (case hw17 => omega)))
  k_with "inplaceOp BitOr int int" => (k_dflt (refine' ior_low ?hw18 ?kw18 ?_; (case hw18 => omega); (case kw18 => omega)))
  k_with "inplaceOp LShift int int" => (k_dflt (refine' ilsh_6 ?hw19 ?kw19 ?_; (case hw19 => omega); (case kw19 => omega)))
  k_with "exec While BinOp cons nil" => refine Hold.out ?_
  k_with "exec While" => refine Hold.out ?_
  k_with "my enterN" => (k_dflt (refine' enterN ?news ?Xw22 ?Tw22 ?Sw22 ?hn ?hdw22 ?how22 ?hcdw22 ?hbw22 ?hlw22 ?hcw22 ?c1w22 ?c2w22 ?c3w22 ?_; (case Xw22 => assumption); (case Tw22 => assumption); (case Sw22 => assumption); (case hdw22 => (show _ < 1000; omega)); (case how22 => k_is); (case hcdw22 => k_is); (case hbw22 => exact BindsTo.of_eq rfl); (case hlw22 => exact locs rfl); (case hcw22 => decide); (case c1w22 => rfl); (case c2w22 => rfl); (case c3w22 => rfl)))
  w_on
  revert X; k_fill; intro X
  have hli : l ≠ it := by
    rintro rfl
    obtain ⟨o, e, hc, n, hd2⟩ := hL
    rw [hit] at e; cases e
    rw [hio.2] at hd2; cases hd2
  have hL' : (hideAll s.heap [it]).IsList l vs.toArray := hL.at fun o e => hide1_get e hli
  walk_at "my enterN"
  case news => exact [(it, io)]
  case hn => (intro p hp; simp only [List.mem_singleton] at hp; subst hp; exact hit)
  intro L' h' F' N' l0
  dsimp only [List.map] at F' N'
  have sg := stays_hide1 S hit0
  have X' := X.keeps sg
  have T' := T.keeps sg
  k_lt l0
  (try dsimp only)
  (try k_fold)
  have hsr := vs_start hdrop hg hv hl
  have hc1 := grp_cons hg
  have hcg := drop_get hdrop
  obtain ⟨tc, hvc⟩ := hI.get i _ hcg.1
  walk_at "my steps"
  show wpAny _ _ (call (.builtin "next") [.ref it]) _ _ _
  k_dflt (refine' next_my (io := io) ?F ?N ?U hio ?hl (x := .int c tc) ?hx ?_; (case F => k_asm); (case N => k_asm); (case U => k_updF); (case hl => exact hL'.at fun o e => Fr.keep (by k_asm) _ _ e); (case hx => simpa using hvc))
  intro h3 o3 F3 N3 hi3
  (try dsimp only at N3)
  walk_at "my steps"
  refine Hold.mk ?_
  rename News _ _ _ _ => N4
  rename Fr _ _ _ _ => F4
  obtain ⟨m₀, hm₀, F4⟩ := name_map F4
  show wpAny _ _ (exec (.While _ _ [] _) _) _ _ _
  refine While_inv2 (n₀ := r.length) (m := m₀) (news := [(it, o3)]) (h₀ := hideAll s.heap [it]) (L := L') (fun n m nx => ∃ (b val : Int) (tb tv : Tok) (j : Nat) (o : Obj) (rem : List Int), nx = [(it, o)] ∧ ItO o l j ∧ VS ms post (i + (r.length + 1)) j v b val n rem ∧ m (Str.ofString "b") = some (.int b tb) ∧ m (Str.ofString "val") = some (.int val tv) ∧
      ∀ z, z ≠ Str.ofString "b" → z ≠ Str.ofString "val" → m z = m₀ z) ?F ?N ?hJ ?turn ?hE
  case F => exact F4
  case N => exact N4
  case hJ => exact ⟨c, c % 64, _, _, i + 1, o3, r, rfl, hi3, hsr, by rw [hm₀]; rfl, by rw [hm₀]; rfl, fun _ _ _ => rfl⟩
  case hE => passes_own
  case turn =>
    rintro n m₁ nx h5 tk5 F5 N5 ⟨b, val, tb, tv, j, o, rem, rfl, ho, hvs, hb, hvl, hm⟩
    have hbb := hvs.bb
    have hnn := hvs.nn
    have h9 : (fun z => if z = Str.ofString "b" then some (Value.int b tb) else m₁ z) = m₁ := by
      funext z
      by_cases hz : z = Str.ofString "b"
      · rw [if_pos hz, hz, hb]
      · rw [if_neg hz]
    have hmm := map_cat2 hvl hm (vx := some (.int b tb))
    rw [h9] at hmm
    rw [hmm, hm₀] at F5
    rcases Int.lt_or_le b 64 with hlt | hge
    · have hend := vs_end hvs hlt
      have hb0 : 0 ≤ b := by rcases hbb with h | h <;> omega
      walk_at "my steps"
      walk_at "my end"
      obtain ⟨rfl, rfl⟩ := hend
      rename News _ _ _ _ => N6
      rename Fr _ _ _ _ => F6
      exact hret _ _ _ _ (keep_but F6) (News.get N6 (by k_mem)) ho
    · obtain ⟨hvlt, c5, r5, hc5, hc50, hc51, hvs5, hn5⟩ := vs_more hvs hge
      obtain ⟨t5, hv5⟩ := hI.get _ _ hc5
      have hb1 : b < 128 := by rcases hbb with h | h <;> omega
      walk_at "my steps"
      show wpAny _ _ (call (.builtin "next") [.ref it]) _ _ _
      k_dflt (refine' next_my (io := o) ?F ?N ?U ho ?hl (x := .int c5 t5) ?hx ?_; (case F => k_asm); (case N => k_asm); (case U => k_updF); (case hl => exact hL'.at fun o e => Fr.keep (by k_asm) _ _ e); (case hx => simpa using hv5))
      intro h7 o7 F7 N7 hi7
      (try dsimp only at N7)
      walk_at "my steps"
      rename News _ _ _ _ => N8
      rename Fr _ _ _ _ => F8
      refine ⟨_, _, _, _, r5.length, rfl, F8, N8, hn5, c5, val * 64 + c5 % 64, _, _, j + 1, o7, r5, rfl, hi7, hvs5, rfl, rfl, fun z z1 z2 => ?_⟩
      rw [hm₀]; dsimp only; simp only [z1, z2, if_false]
end
section
open PySem PySem.W PyProof.Rows PySem.Calls PySem.Spec
set_option Elab.async false
set_option maxRecDepth 100000
set_option maxHeartbeats 1000000
section
section
variable {w : World} {loose : List Str} {mean : ExcName → Option Value} {mg mb : Str → Option Value} {dp un : Nat} {fr : Option (List Env)} {gd : Option (List Code)} {s : Shared}
theorem enterE {K : Frag} {f : Addr} {args : List Value} {name qual : Str} {params : Arguments} {body : List Stmt} {scope : Scope} {dV kV doc pm cdv ct oc : Value} {an od : Option Addr} {osl : Array (Option Value)} {binds : List (Str × Value)} {Q E : Value → Shared → Prop}
    (X : K.In s.heap) (T : Top topProg loose mean mg mb s.heap) (hd : dp < recursionLimit)
    (ho : K.lookup f = some ⟨oc, od, .func (fnOf name qual params body scope dV kV doc pm an cdv ct), osl⟩) (hcd : codeIn K cdv qual = true)
    (hbind : BindsTo s (fnOf name qual params body scope dV kV doc pm an cdv ct) ⟨args, []⟩ binds) (hloc : ∀ y ∈ binds, scope.names.lookup y.1 = some .local)
    (hcell : ∀ x ∈ scope.names, x.2 ≠ .cell) (hco : scope.isCoroutine = false) (hgen : scope.isGenerator = false) (hk : scope.kind = .function)
    (h : ∀ L h₁, Fr s.heap L h₁ (fun y => binds.reverse.lookup y) → News s.heap L h₁ [] →
      wpAny (model PySem.Challenge.rw_rl0058_01.row.prog w) ((AA dp fr gd un).deeper (envOf qual scope L f cdv)) (execs body (envOf qual scope L f cdv)) (fun fl s' => Q (match fl with | .ret v => v | _ => .none) s')
        (fun e s' => wpAny (model PySem.Challenge.rw_rl0058_01.row.prog w) ((AA dp fr gd un).deeper (envOf qual scope L f cdv)) (leaving (envOf qual scope L f cdv) e) (fun _ s'' => E e s'') (fun e' s'' => E e' s'') s')
        { s with heap := h₁, toks := s.toks + binds.length }) :
    wpAny (model PySem.Challenge.rw_rl0058_01.row.prog w) (AA dp fr gd un) (call (.ref f) args) Q E s := by
  refine wpAny_call (codeAny_call_def (fd := fnOf name qual params body scope dV kV doc pm an cdv ct) (body := body) (binds := binds) hd (X _ _ ho) rfl T.nolimit (codeRec_of X hcd) rfl hbind hcell hloc (fun h₁ hns hk₁ => ?_) hco hgen hk)
  exact h s.heap.objs.size h₁ ⟨hns, hk₁, Nat.le_refl _⟩ News.nil
/-- the frames of the callers -/
noncomputable def Outs (h : Heap) (outer : List Env) : Prop := ∃ B, h.FunFrames B outer
theorem outs_hide {h h' : Heap} {outer : List Env} {as : List Addr} (H : Outs h outer) (ha : ∀ env ∈ outer, ∀ a, env.frame = some a → a ∈ as) (k : ∀ b o, h.get? b = some o → (∀ vs, o.data ≠ .fields vs) → ∃ o', h'.get? b = some o' ∧ o'.data = o.data) : h'.FunFrames (hideAll h as) outer := by
  obtain ⟨B, hB⟩ := H
  exact (funFrames_hide hB ha).of_keeps k
end
end
end
section
theorem varint_stop (w : World) (loose : List Str) (mean : ExcName → Option Value) (mg mb : Str → Option Value) (dp un : Nat) (outer : List Env) (gd : Option (List Code)) (s : Shared)
    (Q E : Value → Shared → Prop) (X : (Mine.hk.heap_1 w.params).In s.heap) (T : Top topProg loose mean mg mb s.heap) (hd : dp < 900)
    (it l : Addr) (i : Nat) (vs : List Value) (hit : s.heap.IsListIter it l i) (hL : s.heap.IsList l vs.toArray) (hend : vs.length = i)
    (as : List Addr) (hout : Outs s.heap outer) (ha : ∀ env ∈ outer, ∀ a, env.frame = some a → a ∈ as) (hita : it ∈ as)
    (hE : ∀ e h' tk a0, Heap.FlyingW (hideAll s.heap as) outer e (.type "StopIteration") a0 h' → s.heap.UpToSlots h' → E (.ref e) { s with heap := h', toks := tk }) :
    wpAny (model PySem.Challenge.rw_rl0058_01.row.prog w) (AA dp (some outer) gd un) (call (.ref 77) [.ref it]) Q E s := by
  k_with_none
  k_with "my fold" => ((try (with_reducible refine GTurn.letG ?_; intro gk)); (try (show wpAny _ _ _ _ _ _; k_fold)))
  k_with "my steps" => (walk_at "my fold"; repeat' (first | (k_unfold; (try dsimp only)) | (k_end; wrow_close) | walk1 | (dsimp only; walk1) | (leave1; walk_say "STEP leave1"; try dsimp only) | fail "no step"))
  k_with "my pick" => first | with_reducible assumption | with_reducible exact And.left (by assumption) | with_reducible exact And.left (And.right (by assumption)) | with_reducible exact And.left (And.right (And.right (by assumption))) | with_reducible exact And.left (And.right (And.right (And.right (by assumption)))) | with_reducible exact And.left (And.right (And.right (And.right (And.right (by assumption))))) | with_reducible exact And.left (And.right (And.right (And.right (And.right (And.right (by assumption)))))) | with_reducible exact And.left (And.right (And.right (And.right (And.right (And.right (And.right (by assumption))))))) | with_reducible exact And.left (And.right (And.right (And.right (And.right (And.right (And.right (And.right (by assumption)))))))) | with_reducible exact And.left (And.right (And.right (And.right (And.right (And.right (And.right (And.right (And.right (by assumption))))))))) | with_reducible exact And.left (And.right (And.right (And.right (And.right (And.right (And.right (And.right (And.right (And.right (by assumption)))))))))) | with_reducible exact And.left (And.right (And.right (And.right (And.right (And.right (And.right (And.right (And.right (And.right (And.right (by assumption)))))))))))
  k_with "my ne" => first | exact Nat.ne_of_gt (by walk_at "my pick") | exact Nat.ne_of_lt (by walk_at "my pick") | walk_at "my pick" | exact Ne.symm (by walk_at "my pick")
  k_with "my kn" => (first | walk_at "my ne" | omega)
  k_with "my kne" => (refine neN ?_; (try dsimp only); walk_at "my kn")
  k_with "eval Name" => (k_here; k_dflt (refine' nameX_L ?Fw6 ?vw6 ?_ ?aw6 ?bw6; (case Fw6 => k_asm); (case aw6 => rfl); (case bw6 => rfl); (case vw6 => exact Eq.refl (some _)); k_whole))
  k_with "execs cons" => ((show wpAny _ _ _ _ _ _); k_fold)
  k_with "call builtin:max" => ((with_reducible show wpAny _ _ (call (Value.builtin "max") [Value.int _ _, Value.int _ _, Value.int _ _]) _ _ _); (with_unfolding_all refine' max3_N ?k0w8 ?k1w8 ?k2w8 ?_; (case k0w8 => rfl); (case k1w8 => k_asm); (case k2w8 => k_asm); k_whole); walk_at "my in5"; (try k_sweep))
  k_with "call builtin:min" => ((with_reducible show wpAny _ _ (call (Value.builtin "min") [Value.int _ _, Value.int _ _, Value.int _ _]) _ _ _); (with_unfolding_all refine' min3_N ?k0w9 ?k1w9 ?k2w9 ?_; (case k0w9 => rfl); (case k1w9 => k_asm); (case k2w9 => k_asm); k_whole); walk_at "my in5"; (try k_sweep))
  k_with "call builtin:list.append" => ((show wpAny _ _ (call (Value.builtin "list.append") [Value.ref _, _]) _ _ _); k_dflt (refine' append_K ?k1w10 ?k2w10 ?k3w10 ?_ ?zw10; (case k1w10 => k_asm); (case k2w10 => k_asm); (case k3w10 => k_upd); (case zw10 => size_fits); k_whole); walk_at "my in3"; (try k_sweep))
  k_with "my enter" => (k_dflt (refine' enter ?Xw11 ?Tw11 ?hdw11 ?how11 ?hcdw11 ?hbw11 ?hlw11 ?hcw11 ?c1w11 ?c2w11 ?c3w11 ?_; (case Xw11 => assumption); (case Tw11 => assumption); (case hdw11 => (show _ < 1000; omega)); (case how11 => k_is); (case hcdw11 => k_is); (case hbw11 => exact BindsTo.of_eq rfl); (case hlw11 => exact locs rfl); (case hcw11 => decide); (case c1w11 => rfl); (case c2w11 => rfl); (case c3w11 => rfl); k_whole); walk_at "my inL"; (try dsimp only); (try k_fold))
  k_with "my enterC" => (k_dflt (refine' enterC ?Xw12 ?Tw12 ?hdw12 ?how12 ?hcdw12 ?hbw12 ?hlw12 ?hnw12 ?c1w12 ?c2w12 ?c3w12 ?_; (case Xw12 => assumption); (case Tw12 => assumption); (case hdw12 => (show _ < 1000; omega)); (case how12 => k_is); (case hcdw12 => k_is); (case hbw12 => exact BindsTo.of_eq rfl); (case hlw12 => rfl); (case hnw12 => decide +kernel); (case c1w12 => rfl); (case c2w12 => rfl); (case c3w12 => rfl); k_whole); walk_at "my inC"; (try dsimp only); (try k_fold))
  k_with "my end" => ((try dsimp only); (try k_unfold); (try dsimp only))
  k_with "call builtin:list.extend" => ((show wpAny _ _ (call (Value.builtin "list.extend") [Value.ref _, Value.ref _]) _ _ _); k_dflt (refine' extend_my ?k1w14 ?k2w14 ?k3w14 ?k4w14 ?zw14 ?_; (case k1w14 => k_asm); (case k2w14 => k_asm); (case k3w14 => k_updF); (case k4w14 => k_mem); (case zw14 => (simp only [PySem.sizeLine_eq, List.length_append, List.length_cons, List.length_nil]; omega)); k_whole); walk_at "my inX"; (try k_sweep))
  k_with "my sub" => repeat (first | exact List.forall_mem_nil _ | (refine List.forall_mem_cons.mpr ⟨by k_mem, ?_⟩))
  k_with "call builtin:next" => refine Hold.out ?_
  w_on
  revert X; k_fill; intro X
  k_dflt (refine' enterE ?X ?T ?hd ?ho ?hcd ?hb ?hl ?hc ?c1 ?c2 ?c3 ?_; (case X => assumption); (case T => assumption); (case hd => (show _ < 1000; omega)); (case ho => k_is); (case hcd => k_is); (case hb => exact BindsTo.of_eq rfl); (case hl => exact locs rfl); (case hc => decide); (case c1 => rfl); (case c2 => rfl); (case c3 => rfl); k_whole)
  intro L' h' F' N'
  (try dsimp only)
  (try k_fold)
  walk_at "my steps"
  refine Hold.mk ?_
  show wpAny _ _ (call (.builtin "next") [.ref it]) _ _ _
  rename Fr _ _ _ _ => F4
  refine next_stop rfl (hit.at fun o e => F4.keep _ o e) (hL.at fun o e => F4.keep _ o e) (i := i) (by simp [hend]) ?_
  intro h5 e hk5 hne ⟨oe, us, t, he, hcls, hdt, h0, h1⟩
  have hk : ∀ b o, b ≠ it → s.heap.get? b = some o → h5.get? b = some o := fun b o hb eb => hk5 b o hb (F4.keep b o eb)
  obtain ⟨oi, hoi, -, hdi⟩ := hit
  have hkd : ∀ b o, s.heap.get? b = some o → (∀ vs, o.data ≠ .fields vs) → h5.get? b = some o := fun b o eb hn => hk b o (fun q => by rw [q, hoi] at eb; cases eb; exact hn _ hdi) eb
  have hL0 : s.heap.get? L' = none := Heap.get?_none_of_le F4.above
  obtain ⟨oL, es, ep, hLo, hLd, -⟩ := F4.ns
  have hLit : L' ≠ it := fun q => by rw [q, hoi] at hL0; cases hL0
  have hLn : (hideAll s.heap as).get? L' = none := by
    cases q : (hideAll s.heap as).get? L' with
    | none => rfl
    | some o => have := of_hideAll _ q; rw [hL0] at this; cases this
  walk_at "my end"
  refine wpAny_leaving_firstW (base := hideAll s.heap as) (a0 := .ref t) rfl ?hfun rfl he ?_ ?_ hdt h1 h0 ?_
  case hfun => exact ⟨(by (show ScopeKind.function ≠ ScopeKind.module); decide), ⟨L', oL, rfl, hLn, hk5 _ _ hLit hLo, fun vs q => by rw [hLd] at q; cases q⟩, outs_hide hout ha fun b o eb hn => ⟨o, hkd b o eb hn, rfl⟩⟩
  · intro b o eb
    exact hk b o (fun q => by rw [q, hideAll_none _ hita] at eb; cases eb) (of_hideAll _ eb)
  · cases q : (hideAll s.heap as).get? e with
    | none => rfl
    | some o => have := F4.keep _ _ (of_hideAll _ q); rw [hne] at this; cases this
  · rintro h6 ⟨k1, ⟨_, _, k2⟩, k3, k4⟩
    refine hE e h6 _ _ ⟨k1, ?_, k2, hcls ▸ k3⟩ ?_
    · cases q : (hideAll s.heap as).get? e with
      | none => rfl
      | some o => have := F4.keep _ _ (of_hideAll _ q); rw [hne] at this; cases this
    · exact fun b o eb hn => k4 b o (hkd b o eb hn) hn
end
section
open PySem PySem.W PyProof.Rows PySem.Calls PySem.Spec
set_option Elab.async false
set_option maxRecDepth 100000
set_option maxHeartbeats 1000000
section
section
variable {w : World} {loose : List Str} {mean : ExcName → Option Value} {mg mb : Str → Option Value} {dp un : Nat} {fr : Option (List Env)} {gd : Option (List Code)} {s : Shared} {Q E : Value → Shared → Prop}
  {g₀ h₀ : Heap} {L : Addr} {m : Str → Option Value} {news : List (Addr × Obj)}
/-- the ledger behind a call that may fill the table 44 -/
theorem led44 {h h' : Heap} {ps : Array Value} {g : Obj → List (Addr × Obj)} {D : Addr} {o : Obj} (F : Fr h₀ L h m) (N : News h₀ L h news) (U : UpdF 44 (tabObj ps) news g)
    (hk : ∀ b o, b ≠ 44 → h.get? b = some o → h'.get? b = some o) (hs : Step44 h h') (hD : h.get? D = none) (ho : h'.get? D = some o) :
    (ps ≠ #[] ∧ Fr h₀ L h' m ∧ News h₀ L h' ((D, o) :: news) ∧ AllNe D news) ∨
    (ps = #[] ∧ ∃ c oc us uq, Fr h₀ L h' m ∧ News h₀ L h' ((D, o) :: (c, oc) :: g (tab44 c)) ∧ AllNe D news ∧ AllNe c news ∧ oc.data = .fields us ∧ us[1]? = some (.str q44 uq)) := by
  obtain ⟨pre, post, hl, hg, q1, q2⟩ := U.split
  have N' : News h₀ L h (pre ++ (44, tabObj ps) :: post) := hl ▸ N
  have z := N' (44, tabObj ps) (List.mem_append_right _ (.head _))
  have F' : Fr h₀ L h' m := ⟨F.ns.at' fun o e => hk _ o z.2.1.symm e, fun b o e => hk b o (fun q => by rw [q, z.2.2] at e; cases e) (F.keep b o e), F.above⟩
  have Ng : ∀ o', h'.get? 44 = some o' → News h₀ L h' (g o') := fun o' ho => hg _ ▸ fun p hp => by
    rcases List.mem_append.mp hp with q | q
    · have P := N' p (List.mem_append_left _ q); exact ⟨hk _ _ (q1 p q) P.1, P.2⟩
    · rcases List.mem_cons.mp q with rfl | q
      · exact ⟨ho, z.2⟩
      · have P := N' p (List.mem_append_right _ (.tail _ q)); exact ⟨hk _ _ (q2 p q) P.1, P.2⟩
  have new : ∀ D o, h.get? D = none → h'.get? D = some o → (h'.get? D = some o ∧ D ≠ L ∧ h₀.get? D = none) ∧ AllNe D news := fun D o hD ho => by
    refine ⟨⟨ho, fun e => ?_, ?_⟩, allNe_of fun p hp e => ?_⟩
    · obtain ⟨ol, _, _, e2, _⟩ := F.ns
      rw [← e, hD] at e2; cases e2
    · cases e : h₀.get? D with
      | none => rfl
      | some o' => have := F.keep D o' e; rw [hD] at this; cases this
    · have := (N p hp).1; rw [e, hD] at this; cases this
  have nD := new D o hD ho
  rcases hs with ⟨c, x1, x2, x3, x4⟩ | ⟨c, x1, x2, x3⟩
  · have e0 : ps = #[] := by have := z.1; rw [x1] at this; cases this; rfl
    obtain ⟨c₂, oc, us, uq, ec, hoc, hdt, hu1⟩ := x3
    cases ec
    have nc := new c oc x4 hoc
    refine .inr ⟨e0, c, oc, us, uq, F', (fun p hp => ?_), nD.2, nc.2, hdt, hu1⟩
    rcases List.mem_cons.mp hp with rfl | hp
    · exact nD.1
    rcases List.mem_cons.mp hp with rfl | hp
    · exact nc.1
    · exact Ng _ x2 p hp
  · have e0 : ps = #[rawInt 73, rawInt 4, .ref c] := by have := z.1; rw [x1] at this; cases this; rfl
    have hne : ps ≠ #[] := by rw [e0]; simp
    refine .inl ⟨hne, F', (fun p hp => ?_), nD.2⟩
    rcases List.mem_cons.mp hp with rfl | hp
    · exact nD.1
    · have := Ng _ x2
      rw [hg] at this
      exact this p (by rw [hl, e0] at hp; exact hp)

/-- a call of _int2digits in a frame whose ledger holds the table -/
theorem i2d_led {a n : Nat} {ta tn : Tok} {ps : Array Value} {g : Obj → List (Addr × Obj)} (G : Gd w loose mean mg mb g₀) (S : g₀.StaysIn h₀) (hd : dp < 800) (F : Fr h₀ L s.heap m) (N : News h₀ L s.heap news)
    (U : UpdF 44 (tabObj ps) news g) (hps : TabPs 73 4 q44 ps s.heap) (ha : a < 2 ^ 64) (hn0 : 0 < n) (hn1 : n ≤ 64)
    (h1 : ps ≠ #[] → ∀ D h' tk vs e, Fr h₀ L h' m → News h₀ L h' ((D, lstObj vs e) :: news) → AllNe D news → IntsAre vs (dgI n (cnt a n) a) → Q (.ref D) { s with heap := h', toks := tk })
    (h2 : ps = #[] → ∀ D h' tk vs e c oc us uq, Fr h₀ L h' m → News h₀ L h' ((D, lstObj vs e) :: (c, oc) :: g (tab44 c)) → AllNe D news → AllNe c news → oc.data = .fields us → us[1]? = some (.str q44 uq) → IntsAre vs (dgI n (cnt a n) a) → Q (.ref D) { s with heap := h', toks := tk }) :
    wpAny (model PySem.Challenge.rw_rl0058_01.row.prog w) (AA dp fr gd un) (call (.ref 49) [.int a ta, .int n tn]) Q E s := by
  have z := N (44, tabObj ps) (by obtain ⟨pre, post, hl, -⟩ := U.split; rw [hl]; exact List.mem_append_right _ (.head _))
  refine i2d_call w loose mean mg mb dp un fr gd s Q E g₀ G.X G.T (fun b o e => F.keep b o (S b o e)) G.C48 G.n44 hd ⟨ps, z.1, hps⟩ a n ta tn ha hn0 hn1 fun D h' tk' vs e hk hs hD ho hI => ?_
  rcases led44 F N U hk hs hD ho with ⟨hne, x1, x2, x3⟩ | ⟨he, c, oc, us, uq, x1, x2, x3, x4, x5, x6⟩
  · exact h1 hne D h' tk' vs e x1 x2 x3 hI
  · exact h2 he D h' tk' vs e c oc us uq x1 x2 x3 x4 x5 x6 hI
end
end
section
theorem five_up {α : Type} {a b c d e : α} {r : List α} {P : Prop} (h : (a :: b :: c :: d :: e :: r).length ≤ 4) : P :=
  absurd (show r.length + 1 + 4 ≤ 0 + 4 from h) fun q => Nat.not_succ_le_zero _ (Nat.le_of_add_le_add_right q)
theorem pick_tail {vs : List Value} (h : vs.length ≤ 4) : (slicePick vs.toArray none (some 0) (some (-1))).toList = (vs.drop 1).reverse := by
  rcases vs with _ | ⟨a, _ | ⟨b, _ | ⟨c, _ | ⟨d, _ | ⟨e, r⟩⟩⟩⟩⟩
  · rfl
  · rfl
  · show ((sliceRange 1 0 (-1)).filterMap (#[a, b][·]?)).toArray.toList = _
    rw [show sliceRange 1 0 (-1) = [1] from by decide]; rfl
  · show ((sliceRange 2 0 (-1)).filterMap (#[a, b, c][·]?)).toArray.toList = _
    rw [show sliceRange 2 0 (-1) = [2, 1] from by decide]; rfl
  · show ((sliceRange 3 0 (-1)).filterMap (#[a, b, c, d][·]?)).toArray.toList = _
    rw [show sliceRange 3 0 (-1) = [3, 2, 1] from by decide]; rfl
  · exact five_up h
theorem pick_one {vs : List Value} {v : Value} (h : vs.length ≤ 4) : (slicePick (vs ++ [v]).toArray none (some 1) none).toList = (vs ++ [v]).take 1 := by
  rcases vs with _ | ⟨a, _ | ⟨b, _ | ⟨c, _ | ⟨d, _ | ⟨e, r⟩⟩⟩⟩⟩
  · rfl
  · rfl
  · rfl
  · rfl
  · rfl
  · exact five_up h
section
variable {prog : Program} {w : World} {A : Around} {E : Value → Shared → Prop} {s : Shared} {h₀ : Heap} {L l : Addr} {m : Str → Option Value} {news : List (Addr × Obj)} {value slice : PySem.Expr} {vs zs : List Value} {vl vu vk : Value} {lo hi st : Option Int} {ops : List Value} {Q : Value → Shared → Prop}
theorem slice_my (F : Fr h₀ L s.heap m) (N : News h₀ L s.heap news) (hl : s.heap.IsList l vs.toArray) (pl : IsPart vl lo) (pu : IsPart vu hi) (pk : IsPart vk st) (h0 : st ≠ some 0) (e : (slicePick vs.toArray lo hi st).toList = zs)
    (h : ∀ D h', Fr h₀ L h' m → News h₀ L h' ((D, lstObj zs 0) :: news) → (∀ p ∈ news, p.1 < D) → Q (.ref D) { s with heap := h' })
    (hs : subscripted slice false (.ref l) (.ref s.heap.objs.size) = operate ops (getItem (.ref l) (.ref s.heap.objs.size))) (ht : ∀ r, letTemporaryGo value (.ref l) r = pure ()) (hz : vs.length ≤ sizeLine) :
    wpAny (model prog w) A (subscriptTail value slice (.ref l) (.ref s.heap.objs.size)) Q E { s with heap := s.heap.push { cls := .type "slice", data := .fields #[vl, vu, vk] } } :=
  kmk_slice3_lit F N hl pl pu pk h0 e h hs ht (by rw [List.size_toArray]; exact hz)
end
end
section
theorem pick_take1 (vs : List Value) : (slicePick vs.toArray none (some 1) none).toList = vs.take 1 := by
  cases vs with
  | nil => rfl
  | cons a r =>
    have e : sliceBounds none (some 1) none (a :: r).toArray.size = (((0 : Nat) : Int), ((1 : Nat) : Int), 1) := by
      rw [List.size_toArray, List.length_cons]
      simp only [sliceBounds, Option.getD_none, show ((1 : Int) > 0) from by decide, if_true, show ¬ ((1 : Int) < 0) from by decide, if_false]
      have : max (0 : Int) (min 1 ((r.length + 1 : Nat) : Int)) = 1 := by omega
      rw [this]; rfl
    rw [kmk_pick_nat _ e]; rfl
end
section
section
variable {w : World} {loose : List Str} {mean : ExcName → Option Value} {mg mb : Str → Option Value} {dp un : Nat} {fr : Option (List Env)} {gd : Option (List Code)} {s : Shared} {Q E : Value → Shared → Prop}
  {g₀ h₀ : Heap} {L : Addr} {m : Str → Option Value} {news : List (Addr × Obj)}
theorem varint_led {it l : Addr} {io : Obj} {i : Nat} {vs : List Value} {ms post : List Int} {c v : Int} {r : List Int} {g : Obj → List (Addr × Obj)} (X : (Mine.hk.heap_1 w.params).In g₀) (T : Top topProg loose mean mg mb g₀) (S : g₀.StaysIn h₀) (hd : dp < 900)
    (F : Fr h₀ L s.heap m) (N : News h₀ L s.heap news) (U : UpdF it io news g) (hio : ItO io l i) (hL : s.heap.IsList l vs.toArray) (hI : IntsAre vs ms)
    (hdrop : ms.drop i = c :: (r ++ post)) (hg : Grp (c :: r)) (hv : gv 0 (c :: r) = v) (hl : v < 4294967296)
    (h : ∀ h' tk t io', Fr h₀ L h' m → News h₀ L h' (g io') → ItO io' l (i + (r.length + 1)) → Q (.int v t) { s with heap := h', toks := tk }) :
    wpAny (model PySem.Challenge.rw_rl0058_01.row.prog w) (AA dp fr gd un) (call (.ref 77) [.ref it]) Q E s := by
  obtain ⟨pre, post', hl', hgg, q1, q2⟩ := U.split
  have N' : News h₀ L s.heap (pre ++ (it, io) :: post') := hl' ▸ N
  have z := N' (it, io) (List.mem_append_right _ (.head _))
  have hit0 : g₀.get? it = none := by
    cases e : g₀.get? it with
    | none => rfl
    | some o => have := S _ _ e; rw [z.2.2] at this; cases this
  refine varint_call w loose mean mg mb dp un fr gd s Q E g₀ X T (fun b o e => F.keep b o (S b o e)) hd it l io i vs ms post c v r hit0 z.1 hio hL hI hdrop hg hv hl fun h' tk' t io' hk ho hio' => ?_
  refine h h' tk' t io' ⟨F.ns.at' fun o e => hk _ o z.2.1.symm e, fun b o e => hk b o (fun q => by rw [q, z.2.2] at e; cases e) (F.keep b o e), F.above⟩ (hgg _ ▸ fun p hp => ?_) hio'
  rcases List.mem_append.mp hp with q | q
  · have P := N' p (List.mem_append_left _ q); exact ⟨hk _ _ (q1 p q) P.1, P.2⟩
  · rcases List.mem_cons.mp q with rfl | q
    · exact ⟨ho, z.2⟩
    · have P := N' p (List.mem_append_right _ (.tail _ q)); exact ⟨hk _ _ (q2 p q) P.1, P.2⟩
end
end
section
theorem isExc_Stop : isSubtype (.type "StopIteration") (.type "BaseException") = pure true := by rw [isSubtype_type]; kernel_rfl
theorem notTuple_Stop : isSubtype (.type ((Manifest.find? "StopIteration").elim "type" fun x => x.metatype)) (.type "tuple") = pure false := by
  rw [show ((Manifest.find? "StopIteration").elim "type" fun x => x.metatype) = "type" from by kernel_rfl, isSubtype_type]; kernel_rfl
end
end
section
/-! comprehensions whose elements only make new objects -/
open PySem PySem.W PyProof.Rows PySem.Calls PySem.Spec
open PyProof.Rows.LCg
set_option Elab.async false
set_option maxRecDepth 100000
set_option maxHeartbeats 1000000
section
/-- behind an element: the ledger stands, with new objects; what is said of them -/
noncomputable def GEnd (h₀ : Heap) (L : Addr) (m : Str → Option Value) (led : List (Addr × Obj)) (I C D : Addr) (R : Option Value → List (Addr × Obj) → Prop) (yo : Option Value) (s' s'' : Shared) : Prop :=
  ∃ h' tk e, s'' = { s' with heap := h', toks := tk } ∧ Fr h₀ L h' m ∧ News h₀ L h' (e ++ led) ∧ Off3 I C D e ∧ R yo e
theorem GEnd.intro {h₀ h' : Heap} {L I C D : Addr} {m : Str → Option Value} {led all : List (Addr × Obj)} {R : Option Value → List (Addr × Obj) → Prop} {yo : Option Value} {s' : Shared} {tk : Nat} (e : List (Addr × Obj))
    (F : Fr h₀ L h' m) (N : News h₀ L h' all) (hs : ∀ p ∈ e ++ led, p ∈ all) (off : Off3 I C D e) (hR : R yo e) : GEnd h₀ L m led I C D R yo s' { s' with heap := h', toks := tk } :=
  ⟨h', tk, e, rfl, F, fun p hp => N p (hs p hp), off, hR⟩
/-- the elements so far -/
noncomputable def GAll (R : Nat → Option Value → List (Addr × Obj) → Prop) (yos : List (Option Value)) (ex : List (Addr × Obj)) : Prop :=
  ∀ (j : Nat) (yo : Option Value), yos[j]? = some yo → ∃ e, R j yo e ∧ ∀ p ∈ e, p ∈ ex
section
variable {prog : Program} {w : World} {A : Around} {E : Value → Shared → Prop} {s : Shared} {h₀ : Heap} {L : Addr} {m : Str → Option Value} {env : Env}
theorem codeAny_compLoop_gen {elt target iter : Expr} {ifs : List Expr} {scope : Scope} {pos : Pos} {it acc : Value} {env : Env} {R : Result → Shared → Prop} (I : Nat → Shared → Prop)
    (turn : ∀ n s, I n s → wpAny (model prog w) A (pyNext it) (fun r s₁ => match r with
      | none => R (.ok .next) s₁
      | some v => wpAny (model prog w) A (letOwnedTupleGo target it v) (fun _ s₁' => wpAny (model prog w) A (assign target env v) (fun _ s₂ =>
          wpAny (model prog w) A (forIn ifs true fun c r => if r = true then do let ok ← isTrue c env (eval c env); pure (ForInStep.yield ok) else pure (ForInStep.yield r)) (fun ok s₃ =>
            if ok = true then wpAny (model prog w) A (eval elt env) (fun x s₄ =>
              wpAny (model prog w) A (call (.builtin "list.append") [acc, x]) (fun _ s₅ => ∃ m, m < n ∧ I m s₅) (notedBy (model prog w) A env fun e s' => R (.error e) s') s₄) (notedBy (model prog w) A env fun e s' => R (.error e) s') s₃
            else ∃ m, m < n ∧ I m s₃) (notedBy (model prog w) A env fun e s' => R (.error e) s') s₂) (notedBy (model prog w) A env fun e s' => R (.error e) s') s₁') (notedBy (model prog w) A env fun e s' => R (.error e) s') s₁) (notedBy (model prog w) A env fun e s' => R (.error e) s') s)
    (n : Nat) (h : I n s) :
    codeAny (model prog w) A (.compLoop (.ListComp elt [⟨target, iter, ifs, 0⟩] scope pos) 0 it acc env) R s := by
  refine codeAny_loop rfl I (fun n s hI => ?_) n h
  show wpAny _ A ((compTurn (.ListComp elt [⟨target, iter, ifs, 0⟩] scope pos) 0 it acc env).onRaise (fun x => do noteFrame x env; theTreesLotGoes x)) _ _ s
  refine wpAny_noted ?_
  rw [compTurn_list]
  refine wpAny_bind (wpAny_standAt (wpAny_bind (wpAny_mono (turn n s hI) (fun r s₁ h₁ => ?_) fun _ _ h' => h')))
  cases r with
  | none => exact wpAny_pure h₁
  | some v =>
    refine wpAny_bind (wpAny_mono h₁ (fun _ s₁' h₁' => ?_) fun _ _ h' => h')
    refine wpAny_bind (wpAny_mono h₁' (fun _ s₂ h₂ => wpAny_bind (wpAny_mono h₂ (fun ok s₃ h₃ => ?_) fun _ _ h' => h')) fun _ _ h' => h')
    cases ok with
    | false => exact wpAny_pure ⟨rfl, h₃⟩
    | true =>
      exact wpAny_bind (wpAny_bind (wpAny_mono h₃ (fun x s₄ h₄ => wpAny_bind (wpAny_mono h₄ (fun _ s₅ h₅ => wpAny_pure (wpAny_pure ⟨rfl, h₅⟩)) fun _ _ h' => h')) fun _ _ h' => h'))

/-- the element's part: the tests, then its value -/
noncomputable def GTurn (prog : Program) (w : World) (A : Around) (ifs : List Expr) (elt : Expr) (cenv : Env) (G : Option Value → Shared → Prop) (E : Value → Shared → Prop) (s' : Shared) : Prop :=
  wpAny (model prog w) A (forIn ifs true fun c r => if r = true then do let ok ← isTrue c cenv (eval c cenv); pure (ForInStep.yield ok) else pure (ForInStep.yield r)) (fun ok s₃ =>
    if ok = true then wpAny (model prog w) A (eval elt cenv) (fun y s₄ => G (some y) s₄) E s₃ else G none s₃) E s'

theorem letP {P : Prop} (h : let G := P; G) : P := h
theorem GTurn.letG {prog : Program} {w : World} {A : Around} {ifs : List Expr} {elt : Expr} {cenv : Env} {G : Option Value → Shared → Prop} {E : Value → Shared → Prop} {s' : Shared} (h : let G' := G; GTurn prog w A ifs elt cenv G' E s') : GTurn prog w A ifs elt cenv G E s' := h
theorem block_G {elt iter target : Expr} {ifs : List Expr} {scope : Scope} {cl : List (Str × Addr)} {pos : Pos} {s₂ : Shared} {I : Addr} {fp : List Addr} {n : Nat} {P : Nat → Value → Prop} {St : Nat → Heap → Prop} {news : List (Addr × Obj)}
    {RR : Value → Addr → Result → Shared → Prop} (Bnd : Nat → (Str → Option Value) → Prop) (R : Nat → Option Value → List (Addr × Obj) → Prop)
    (W : Walks prog w A I fp [I] n P St) (hsz : n ≤ sizeLine) (hIo : ∀ i h, St i h → ∃ o, h.get? I = some o)
    (hSt : ∀ i h h' o nw, St i h → h.get? I = some o → h'.get? I = some o → (∀ b o, h₀.get? b = some o → h'.get? b = some o) → News h₀ L h' nw → (∀ p ∈ news, p ∈ nw) → St i h')
    (hcell : ∀ y ∈ scope.names, y.2 ≠ .cell) (hkind : scope.kind = .function) (hst : St 0 s₂.heap) (hfp : ∀ b ∈ fp, b < s₂.heap.objs.size)
    (F : Fr h₀ L s₂.heap m) (N : News h₀ L s₂.heap news) (hIL : L ≠ I) (hI₀ : h₀.get? I = none) (off : ∀ p ∈ news, p.1 ≠ I)
    (asg : ∀ i v C m' (s' : Shared) (E' : Value → Shared → Prop) (Q' : Unit → Shared → Prop), i < n → P i v → St (i + 1) s'.heap → Fr h₀ L s'.heap m → News h₀ L s'.heap news → s'.heap.Ns C m' →
      (∀ h' tk' m₂, (∀ b o, b ≠ C → s'.heap.get? b = some o → h'.get? b = some o) → h'.Ns C m₂ → Bnd i m₂ → Q' () { s' with heap := h', toks := tk' }) →
      wpAny (model prog w) A (letOwnedTupleGo target (.ref I) v) (fun _ s₁ => wpAny (model prog w) A (assign target (compEnvC scope cl C env) v) Q' E' s₁) E' s')
    (elem : ∀ i I oI C oC D ys m₂ ex (s' : Shared) (E' : Value → Shared → Prop), i < n → Bnd i m₂ → NsObj oC m₂ → Fr h₀ L s'.heap m → News h₀ L s'.heap ((I, oI) :: (C, oC) :: (D, lst ys) :: (news ++ ex)) → Off3 I C D news → ((@Ne Nat I C) ∧ (@Ne Nat I D) ∧ (@Ne Nat C D)) →
      GTurn prog w A ifs elt (compEnvC scope cl C env) (fun yo s'' => GEnd h₀ L m ((I, oI) :: (C, oC) :: (D, lst ys) :: (news ++ ex)) I C D (R i) yo s' s'') E' s')
    (hRR : ∀ D C h tk m' yos ex, Fr h₀ L h m → News h₀ L h ((D, lst (yos.filterMap id)) :: (news ++ ex)) → Off1 D (news ++ ex) → h.Ns C m' → h₀.get? C = none → h₀.get? D = none → C ≠ L → D ≠ L → C ≠ D → (∀ p ∈ news ++ ex, p.1 ≠ C) → yos.length = n → GAll R yos ex → RR (.ref D) C (.ok .next) { s₂ with heap := h, toks := tk }) :
    wpAny (model prog w) A (newList []) (fun acc s₃ => wpAny (model prog w) A (newFunctionEnv scope env.globals cl [] env.qual none .none (some env)) (fun cenv s₄ =>
      codeAny (model prog w) A (.compStart (.ListComp elt [⟨target, iter, ifs, 0⟩] scope pos) 0 (.ref I) acc { cenv with scope := relabel scope env }) (RR acc cenv.locals) s₄) E s₃) E s₂ := by
  refine wpAny_newObj_type (wpAny_newFunctionEnv hcell (by intro y hy; simp at hy) (fun h₁ hns₁ hsb₁ => ?_) hkind)
  dsimp only at hns₁ hsb₁ ⊢
  generalize hH2 : s₂.heap.push { cls := .type "list", dict := none, data := .seq ([] : List Value).toArray } = H2 at hns₁ hsb₁ ⊢
  have hC : H2.objs.size = s₂.heap.objs.size + 1 := by rw [← hH2, Heap.size_push]
  have hDC : s₂.heap.objs.size ≠ H2.objs.size := by rw [hC]; exact Nat.ne_of_lt (Nat.lt_succ_self _)
  have below : ∀ b, b < s₂.heap.objs.size → b ≠ H2.objs.size ∧ b ≠ s₂.heap.objs.size := fun b hb => ⟨by rw [hC]; exact Nat.ne_of_lt (Nat.lt_succ_of_lt hb), Nat.ne_of_lt hb⟩
  have hDf : s₂.heap.objs.size ∉ fp := fun hm => Nat.lt_irrefl _ (hfp _ hm)
  have hCf : H2.objs.size ∉ fp := fun hm => by have := hfp _ hm; rw [hC] at this; exact Nat.lt_irrefl _ (Nat.lt_of_succ_lt this)
  have hIf : I ∈ fp := W.sub I (List.mem_singleton.mpr rfl)
  have hIlt : I < s₂.heap.objs.size := hfp I hIf
  have old : ∀ b o, s₂.heap.get? b = some o → h₁.get? b = some o := fun b o e => hsb₁.extBut b o (below b (Heap.lt_size e)).1 (Heap.get?_push_of_some _ (hH2 ▸ Heap.get?_push_of_some _ e))
  have hacc : h₁.get? s₂.heap.objs.size = some (lst []) := hsb₁.extBut _ _ hDC (Heap.get?_push_of_some _ (hH2 ▸ Heap.get?_push_size _ rfl))
  have hst₁ : St 0 h₁ := W.frame _ _ _ hst fun b _ o e => old b o e
  have fresh : ∀ a, s₂.heap.objs.size ≤ a → s₂.heap.get? a = none := fun a ha => by
    cases e : s₂.heap.get? a with
    | none => rfl
    | some o' => exact absurd (Heap.lt_size e) (Nat.not_lt.mpr ha)
  have fresh₀ : ∀ a, s₂.heap.objs.size ≤ a → h₀.get? a = none := fun a ha => by
    cases e : h₀.get? a with
    | none => rfl
    | some o' => have := F.keep a o' e; rw [fresh a ha] at this; cases this
  have hD₀ : h₀.get? s₂.heap.objs.size = none := fresh₀ _ (Nat.le_refl _)
  have hC₀ : h₀.get? H2.objs.size = none := fresh₀ _ (by rw [hC]; exact Nat.le_succ _)
  have hLlt : L < s₂.heap.objs.size := F.ns.lt
  have hDL : s₂.heap.objs.size ≠ L := Ne.symm (below L hLlt).2
  have hCL : H2.objs.size ≠ L := Ne.symm (below L hLlt).1
  have hCI : I ≠ H2.objs.size := (below I hIlt).1
  have hDI : I ≠ s₂.heap.objs.size := (below I hIlt).2
  have off₀ : Off3 I H2.objs.size s₂.heap.objs.size news := Off3.of fun p hp => ⟨off p hp, (below _ (Heap.lt_size (N p hp).1)).1, (below _ (Heap.lt_size (N p hp).1)).2⟩
  have loop : ∀ s₃ : Shared, s₃ = { s₂ with heap := h₁, toks := s₂.toks + ([] : List (Str × Value)).length } →
      codeAny (model prog w) A (.compLoop (.ListComp elt [⟨target, iter, ifs, 0⟩] scope pos) 0 (.ref I) (.ref s₂.heap.objs.size) (compEnvC scope cl H2.objs.size env))
        (RR (.ref s₂.heap.objs.size) H2.objs.size) s₃ := by
    rintro s₃ rfl
    refine codeAny_compLoop_gen
      (fun k s' => ∃ h' tk i yos m' ex, s' = { s₂ with heap := h', toks := tk } ∧ i ≤ n ∧ k = n + 1 - i ∧ yos.length = i ∧ St i h' ∧ Fr h₀ L h' m ∧ h'.Ns H2.objs.size m' ∧ News h₀ L h' ((s₂.heap.objs.size, lst (yos.filterMap id)) :: (news ++ ex)) ∧
        Off3 I H2.objs.size s₂.heap.objs.size (news ++ ex) ∧ GAll R yos ex) ?_ (n + 1)
      ⟨h₁, _, 0, [], _, [], rfl, Nat.zero_le _, rfl, rfl, hst₁, F.keeps old, hns₁, fun p hp => ?_, (List.append_nil news).symm ▸ off₀, fun j yo e => by simp at e⟩
    · intro k s' hJ9
      refine letP ?_
      intro GG
      obtain ⟨h', tk, i, yos, m', ex, rfl, hi, rfl, hyl, hst', F', hn', N', off', hG⟩ := hJ9
      have off3 := off'.mem
      by_cases hlt : i < n
      · refine W.item i _ _ _ hlt hst' fun v h₂ tk₂ hPv hst₂ hk₂ => ?_
        have hns₂ : h₂.Ns H2.objs.size m' := hn'.at' fun o e => hk₂ _ o (by simpa using Ne.symm hCI) e
        have F₂ : Fr h₀ L h₂ m := fr_but F' hk₂ hIL hI₀
        have N₂ : News h₀ L h₂ ((s₂.heap.objs.size, lst (yos.filterMap id)) :: (news ++ ex)) := news_but N' hk₂ fun p hp => by
          rcases List.mem_cons.mp hp with rfl | hp
          · exact Ne.symm hDI
          · exact (off3 p hp).1
        refine asg i v H2.objs.size m' _ _ _ hlt hPv hst₂ F₂ (fun p hp => N₂ p (.tail _ (List.mem_append_left _ hp))) hns₂ fun h₃ tk₃ m₂ old3 hn₃ hB => ?_
        have hst₃ : St (i + 1) h₃ := W.frame _ _ _ hst₂ fun b hb o e => old3 b o (fun q => hCf (by rw [← q]; exact hb)) e
        refine letP ?_
        intro GG
        obtain ⟨oI, heI⟩ := hIo _ _ hst₃
        obtain ⟨oC, heC, hoC⟩ := ns_obj hn₃
        have F₃ : Fr h₀ L h₃ m := ⟨F₂.ns.at' fun o e => old3 L o hCL.symm e, fun b o e => old3 b o (fun q => by rw [q, hC₀] at e; cases e) (F₂.keep b o e), F₂.above⟩
        have N₃ : News h₀ L h₃ ((I, oI) :: (H2.objs.size, oC) :: (s₂.heap.objs.size, lst (yos.filterMap id)) :: (news ++ ex)) := fun p hp => by
          rcases List.mem_cons.mp hp with rfl | hp
          · exact ⟨heI, Ne.symm hIL, hI₀⟩
          · rcases List.mem_cons.mp hp with rfl | hp
            · exact ⟨heC, hCL, hC₀⟩
            · have z := N₂ p hp
              refine ⟨old3 _ _ ?_ z.1, z.2⟩
              rcases List.mem_cons.mp hp with rfl | hp
              · exact hDC
              · exact (off3 p hp).2.1
        have fin : ∀ (yo : Option Value) (h₄ : Heap) (e : List (Addr × Obj)), Fr h₀ L h₄ m → News h₀ L h₄ (e ++ (I, oI) :: (H2.objs.size, oC) :: (s₂.heap.objs.size, lst (yos.filterMap id)) :: (news ++ ex)) → Off3 I H2.objs.size s₂.heap.objs.size e → R i yo e →
            St (i + 1) h₄ ∧ News h₀ L h₄ ((I, oI) :: (H2.objs.size, oC) :: (s₂.heap.objs.size, lst (yos.filterMap id)) :: (news ++ (ex ++ e))) ∧ Off3 I H2.objs.size s₂.heap.objs.size (news ++ (ex ++ e)) ∧ GAll R (yos ++ [yo]) (ex ++ e) := by
          intro yo h₄ e F₄ N₄ offe hR
          have N₄' : News h₀ L h₄ ((I, oI) :: (H2.objs.size, oC) :: (s₂.heap.objs.size, lst (yos.filterMap id)) :: (news ++ (ex ++ e))) := fun p hp => by
            rcases List.mem_cons.mp hp with rfl | hp
            · exact N₄ _ (List.mem_append_right _ (.head _))
            rcases List.mem_cons.mp hp with rfl | hp
            · exact N₄ _ (List.mem_append_right _ (.tail _ (.head _)))
            rcases List.mem_cons.mp hp with rfl | hp
            · exact N₄ _ (List.mem_append_right _ (.tail _ (.tail _ (.head _))))
            rw [← List.append_assoc] at hp
            rcases List.mem_append.mp hp with hp | hp
            · exact N₄ _ (List.mem_append_right _ (.tail _ (.tail _ (.tail _ hp))))
            · exact N₄ _ (List.mem_append_left _ hp)
          refine ⟨hSt _ _ _ _ _ hst₃ heI (N₄' _ (.head _)).1 F₄.keep N₄' fun p hp => .tail _ (.tail _ (.tail _ (List.mem_append_left _ hp))), N₄', Off3.of fun p hp => ?_, fun j yo' ej => ?_⟩
          · rw [← List.append_assoc] at hp
            rcases List.mem_append.mp hp with hp | hp
            · exact off3 p hp
            · exact offe.mem p hp
          · rcases Nat.lt_or_ge j yos.length with hj | hj
            · rw [List.getElem?_append_left hj] at ej
              obtain ⟨e', r1, r2⟩ := hG j yo' ej
              exact ⟨e', r1, fun p hp => List.mem_append_left _ (r2 p hp)⟩
            · rw [List.getElem?_append_right hj] at ej
              have hj0 : j - yos.length = 0 := by
                rcases Nat.eq_zero_or_pos (j - yos.length) with q | q
                · exact q
                · rw [List.getElem?_eq_none (by simp; omega)] at ej; cases ej
              rw [hj0] at ej
              simp only [List.getElem?_cons_zero, Option.some.injEq] at ej
              subst ej
              have : j = i := by omega
              subst this
              exact ⟨e, hR, fun p hp => List.mem_append_right _ hp⟩
        refine wpAny_mono (elem i I oI H2.objs.size oC s₂.heap.objs.size _ m₂ ex { s₂ with heap := h₃, toks := tk₃ } _ hlt hB hoC F₃ N₃ (Off3.of fun p hp => off3 p (List.mem_append_left _ hp)) ⟨hCI, hDI, Ne.symm hDC⟩) (fun ok s₃ hok => ?_) fun _ _ e => e
        cases ok with
        | false =>
          rw [if_neg Bool.false_ne_true] at hok ⊢
          refine letP ?_
          intro GG
          obtain ⟨h₄, tk₄, e, rfl, x2, N₄, offe, hR⟩ := hok
          obtain ⟨x1, x3, x4, x5⟩ := fin none h₄ e x2 N₄ offe hR
          refine ⟨n + 1 - (i + 1), by omega, h₄, tk₄, i + 1, yos ++ [none], _, ex ++ e, rfl, hlt, rfl, by rw [List.length_append, List.length_singleton, hyl], x1, x2, hoC.ns (x3 _ (.tail _ (.head _))).1, fun p hp => ?_, x4, x5⟩
          have e1 : (yos ++ [none]).filterMap id = yos.filterMap id := by simp
          rw [e1] at hp
          exact x3 p (.tail _ (.tail _ hp))
        | true =>
          rw [if_pos rfl] at hok ⊢
          refine wpAny_mono hok (fun y s₄ hy => ?_) fun _ _ e => e
          refine letP ?_
          intro GG
          obtain ⟨h₄, tk₄, e, rfl, x2, N₄, offe, hR⟩ := hy
          obtain ⟨x1, x3, x4, x5⟩ := fin (some y) h₄ e x2 N₄ offe hR
          have zD := (x3 _ (.tail _ (.tail _ (.head _)))).1
          have hlen : (yos.filterMap id).length ≤ n := Nat.le_trans (List.length_filterMap_le _ _) (by omega)
          refine append_at (hsz := by show (yos.filterMap id).toArray.size ≤ sizeLine; rw [List.size_toArray]; exact Nat.le_trans hlen hsz) zD fun h₅ hs₅ hD₅ => ?_
          have off4 := x4.mem
          refine ⟨n + 1 - (i + 1), by omega, h₅, tk₄, i + 1, yos ++ [some y], _, ex ++ e, rfl, hlt, rfl, by rw [List.length_append, List.length_singleton, hyl], W.frame _ _ _ x1 fun b hb o eb => hs₅.extBut b o (fun q => hDf (q ▸ hb)) eb, x2.change hs₅ hDL hD₀,
            (hoC.ns (x3 _ (.tail _ (.head _))).1).sameBut hs₅ (Ne.symm hDC), fun p hp => ?_, x4, x5⟩
          have e1 : (yos ++ [some y]).filterMap id = yos.filterMap id ++ [y] := by simp
          rw [e1] at hp
          rcases List.mem_cons.mp hp with rfl | hp
          · exact ⟨hD₅.trans (congrArg some (lst_snoc _ y)), hDL, hD₀⟩
          · have z := x3 p (.tail _ (.tail _ (.tail _ hp)))
            exact ⟨hs₅.extBut _ _ (off4 p hp).2.2 z.1, z.2⟩
      · obtain rfl : i = n := Nat.le_antisymm hi (Nat.not_lt.mp hlt)
        refine W.done _ _ _ hst' fun h₂ tk₂ hk₂ => ?_
        exact hRR _ _ h₂ tk₂ _ yos ex (fr_but F' hk₂ hIL hI₀) (news_but N' hk₂ fun p hp => by
          rcases List.mem_cons.mp hp with rfl | hp
          · exact Ne.symm hDI
          · exact (off3 p hp).1) off'.one (hn'.at' fun o e => hk₂ _ o (by simpa using Ne.symm hCI) e) hC₀ hD₀ hCL hDL (Ne.symm hDC) (fun p hp => (off3 p hp).2.1) hyl hG
    · rcases List.mem_cons.mp hp with rfl | hp
      · exact ⟨hacc, hDL, hD₀⟩
      · rw [List.append_nil] at hp; exact ⟨old _ _ (N p hp).1, (N p hp).2⟩
  exact codeAny_compStart_list (loop _ rfl) (W.self 0 _ _ _ hst₁ (loop _ rfl))
end
end
end
section
/-! comprehensions over a list, a range: the rules -/
open PySem PySem.W PyProof.Rows PySem.Calls PySem.Spec
open PyProof.Rows.LCg
set_option Elab.async false
set_option maxRecDepth 100000
set_option maxHeartbeats 1000000
section
noncomputable abbrev Asg (prog : Program) (w : World) (A : Around) (h₀ : Heap) (L : Addr) (m : Str → Option Value) (env : Env) (target : Expr) (scope : Scope) (cl : List (Str × Addr)) (news : List (Addr × Obj)) (n : Nat) (P : Nat → Value → Prop) (I : Addr) (St : Nat → Heap → Prop) (Bnd : Nat → (Str → Option Value) → Prop) : Prop :=
  ∀ i v C m' (s' : Shared) (E' : Value → Shared → Prop) (Q' : Unit → Shared → Prop), i < n → P i v → St (i + 1) s'.heap → Fr h₀ L s'.heap m → News h₀ L s'.heap news → s'.heap.Ns C m' →
      (∀ h' tk' m₂, (∀ b o, b ≠ C → s'.heap.get? b = some o → h'.get? b = some o) → h'.Ns C m₂ → Bnd i m₂ → Q' () { s' with heap := h', toks := tk' }) →
      wpAny (model prog w) A (letOwnedTupleGo target (.ref I) v) (fun _ s₁ => wpAny (model prog w) A (assign target (compEnvC scope cl C env) v) Q' E' s₁) E' s'
noncomputable abbrev Elem (prog : Program) (w : World) (A : Around) (h₀ : Heap) (L : Addr) (m : Str → Option Value) (env : Env) (elt : Expr) (ifs : List Expr) (scope : Scope) (cl : List (Str × Addr)) (news : List (Addr × Obj)) (n : Nat) (Bnd : Nat → (Str → Option Value) → Prop) (R : Nat → Option Value → List (Addr × Obj) → Prop) : Prop :=
  ∀ i I oI C oC D ys m₂ ex (s' : Shared) (E' : Value → Shared → Prop), i < n → Bnd i m₂ → NsObj oC m₂ → Fr h₀ L s'.heap m → News h₀ L s'.heap ((I, oI) :: (C, oC) :: (D, lst ys) :: (news ++ ex)) → Off3 I C D news → ((@Ne Nat I C) ∧ (@Ne Nat I D) ∧ (@Ne Nat C D)) →
      GTurn prog w A ifs elt (compEnvC scope cl C env) (fun yo s'' => GEnd h₀ L m ((I, oI) :: (C, oC) :: (D, lst ys) :: (news ++ ex)) I C D (R i) yo s' s'') E' s'
noncomputable abbrev GFin (h₀ : Heap) (L : Addr) (mf : Addr → Str → Option Value) (news : List (Addr × Obj)) (n : Nat) (R : Nat → Option Value → List (Addr × Obj) → Prop) (K : Heap → Nat → Addr → Prop) : Prop :=
  ∀ D h tk yos ex, Fr h₀ L h (mf D) → News h₀ L h ((D, lst (yos.filterMap id)) :: (news ++ ex)) → Off1 D (news ++ ex) → yos.length = n → GAll R yos ex → K h tk D
section
variable {prog : Program} {w : World} {A : Around} {E : Value → Shared → Prop} {s : Shared} {h₀ : Heap} {L : Addr} {m : Str → Option Value} {env : Env}
theorem asg_name {x : Str} {px : Pos} {scope : Scope} {cl : List (Str × Addr)} {news : List (Addr × Obj)} {n : Nat} {P : Nat → Value → Prop} {I : Addr} {St : Nat → Heap → Prop}
    (hx : scope.names.lookup x = some .local) (hkind : scope.kind = .function) : Asg prog w A h₀ L m env (.Name x px) scope cl news n P I St (fun i m₂ => ∃ v, P i v ∧ m₂ x = some v) := by
  intro i v C m' s' E' Q' hi hP _ _ _ hn k
  refine wpAny_of_eq (a := ()) rfl ?_
  refine wpAny_assign_Name (wpAny_storeName_local (lookup_relabel_local hx) hn (fun h₃ hn₃ hs₃ => ?_) (by simp [compEnvC, relabel, hkind]))
  exact k h₃ _ _ (fun b o hb e => hs₃.extBut b o hb e) hn₃ ⟨v, hP, by simp⟩
/-- what an unpacked item is -/
noncomputable def SeqAt (h : Heap) (t : Addr) (items : Array Value) : Prop := IsTup h t items ∨ h.IsList t items
theorem assign_seq {elts : List Expr} {k : Nat} {pos : Pos} {t : Addr} {items : Array Value} {env : Env} {Q : Unit → Shared → Prop} (hh : A.handled = none) (ht : SeqAt s.heap t items)
    (hn : (assignEach elts env).length = items.size) (hstar : (assignEach elts env).findIdx? (·.1) = none)
    (h : ∀ h', (∀ b o, s.heap.get? b = some o → h'.get? b = some o) → wpAny (model prog w) A (assignInOrder ((assignEach elts env).map (·.2)) items.toList) Q E { s with heap := h' }) :
    wpAny (model prog w) A (assign (.Tuple elts k pos) env (.ref t)) Q E s := by
  rcases ht with ht | hl
  · exact assign_Tuple_tuple hh ht hn hstar fun h' he => h h' fun b o e => he b o (Nat.ne_of_lt (Heap.lt_size e)) e
  · rw [assign_Tuple]
    refine wpAny_bind (wpAny_standAt ?_)
    unfold unpack
    rw [hn, hstar]
    exact wpAny_bind (wpAny_holding (kun_itemsOf hh hl fun h' he => h h' fun b o e => he b o (Nat.ne_of_lt (Heap.lt_size e)) e))
theorem asg_two {x y : Str} {px py tp : Pos} {tk : Nat} {scope : Scope} {cl : List (Str × Addr)} {news : List (Addr × Obj)} {n : Nat} {P : Nat → Value → Prop} {I ax : Addr} {its : Array Value}
    (hh : A.handled = none) (hx : scope.names.lookup x = some .local) (hy : scope.names.lookup y = some .local) (hxy : x ≠ y) (hkind : scope.kind = .function)
    (hseq : ∀ i v, i < n → P i v → ∃ t a b, v = .ref t ∧ ∀ h, Fr h₀ L h m → News h₀ L h news → SeqAt h t #[a, b]) :
    Asg prog w A h₀ L m env (.Tuple [.Name x px, .Name y py] tk tp) scope cl news n P I (fun i h => h.IsListIter I ax i ∧ h.IsList ax its)
      (fun i m₂ => ∃ t a b, P i (.ref t) ∧ (∀ h, Fr h₀ L h m → News h₀ L h news → SeqAt h t #[a, b]) ∧ m₂ x = some a ∧ m₂ y = some b) := by
  intro i v C m' s' E' Q' hi hP hst F N hn k
  obtain ⟨t, a, b, rfl, ht⟩ := hseq i v hi hP
  refine wpAny_letOwnedTupleGo_listiter hst.1 ?_
  refine assign_seq hh (ht _ F N) rfl rfl fun h₁ hk₁ => ?_
  refine assignInOrder_cons (wpAny_assign_Name (wpAny_storeName_local (lookup_relabel_local hx) (hn.at' fun o e => hk₁ _ o e) (fun h₂ hn₂ hs₂ => ?_) (by simp [compEnvC, relabel, hkind])))
  refine assignInOrder_cons (wpAny_assign_Name (wpAny_storeName_local (lookup_relabel_local hy) hn₂ (fun h₃ hn₃ hs₃ => ?_) (by simp [compEnvC, relabel, hkind])))
  refine assignInOrder_nil ?_
  exact k h₃ _ _ (fun b o hb e => hs₃.extBut b o hb (hs₂.extBut b o hb (hk₁ b o e))) hn₃ ⟨t, a, b, hP, ht, by simp [hxy], by simp⟩
theorem asg_three {x y z : Str} {px py pz tp : Pos} {tk : Nat} {scope : Scope} {cl : List (Str × Addr)} {news : List (Addr × Obj)} {n : Nat} {P : Nat → Value → Prop} {I ax : Addr} {its : Array Value}
    (hh : A.handled = none) (hx : scope.names.lookup x = some .local) (hy : scope.names.lookup y = some .local) (hz : scope.names.lookup z = some .local) (hxy : x ≠ y) (hxz : x ≠ z) (hyz : y ≠ z) (hkind : scope.kind = .function)
    (hseq : ∀ i v, i < n → P i v → ∃ t a b c, v = .ref t ∧ ∀ h, Fr h₀ L h m → News h₀ L h news → SeqAt h t #[a, b, c]) :
    Asg prog w A h₀ L m env (.Tuple [.Name x px, .Name y py, .Name z pz] tk tp) scope cl news n P I (fun i h => h.IsListIter I ax i ∧ h.IsList ax its)
      (fun i m₂ => ∃ t a b c, P i (.ref t) ∧ (∀ h, Fr h₀ L h m → News h₀ L h news → SeqAt h t #[a, b, c]) ∧ m₂ x = some a ∧ m₂ y = some b ∧ m₂ z = some c) := by
  intro i v C m' s' E' Q' hi hP hst F N hn k
  obtain ⟨t, a, b, c, rfl, ht⟩ := hseq i v hi hP
  refine wpAny_letOwnedTupleGo_listiter hst.1 ?_
  refine assign_seq hh (ht _ F N) rfl rfl fun h₁ hk₁ => ?_
  refine assignInOrder_cons (wpAny_assign_Name (wpAny_storeName_local (lookup_relabel_local hx) (hn.at' fun o e => hk₁ _ o e) (fun h₂ hn₂ hs₂ => ?_) (by simp [compEnvC, relabel, hkind])))
  refine assignInOrder_cons (wpAny_assign_Name (wpAny_storeName_local (lookup_relabel_local hy) hn₂ (fun h₃ hn₃ hs₃ => ?_) (by simp [compEnvC, relabel, hkind])))
  refine assignInOrder_cons (wpAny_assign_Name (wpAny_storeName_local (lookup_relabel_local hz) hn₃ (fun h₄ hn₄ hs₄ => ?_) (by simp [compEnvC, relabel, hkind])))
  refine assignInOrder_nil ?_
  exact k h₄ _ _ (fun b o hb e => hs₄.extBut b o hb (hs₃.extBut b o hb (hs₂.extBut b o hb (hk₁ b o e)))) hn₄ ⟨t, a, b, c, hP, ht, by simp [hxy, hxz], by simp [hyz], by simp⟩

/-- a list as the source -/
noncomputable def SrcGL (prog : Program) (w : World) (A : Around) (h₀ : Heap) (L : Addr) (m : Str → Option Value) (env : Env) (elt target : Expr) (ifs : List Expr) (scope : Scope) (cl : List (Str × Addr)) (mf : Addr → Str → Option Value) (K : Shared → Heap → Nat → Addr → Prop) (xv : Value) (s₁ : Shared) : Prop :=
  ∃ ax its news Bnd R, xv = .ref ax ∧ A.handled = none ∧ Fr h₀ L s₁.heap m ∧ News h₀ L s₁.heap news ∧ SrcAt h₀ ax its news ∧ its.size ≤ sizeLine ∧
    (∀ I, Asg prog w A h₀ L m env target scope cl news its.size (fun i v => its[i]? = some v) I (fun i h => h.IsListIter I ax i ∧ h.IsList ax its) Bnd) ∧
    Elem prog w A h₀ L m env elt ifs scope cl news its.size Bnd R ∧ GFin h₀ L mf news its.size R (K s₁)
/-- a range as the source -/
noncomputable def SrcGR (prog : Program) (w : World) (A : Around) (h₀ : Heap) (L : Addr) (m : Str → Option Value) (env : Env) (elt target : Expr) (ifs : List Expr) (scope : Scope) (cl : List (Str × Addr)) (mf : Addr → Str → Option Value) (K : Shared → Heap → Nat → Addr → Prop) (xv : Value) (s₁ : Shared) : Prop :=
  ∃ r a b c t u v n news Bnd R, xv = .ref r ∧ A.handled = none ∧ Fr h₀ L s₁.heap m ∧ News h₀ L s₁.heap news ∧ IsRange s₁.heap r a b c t u v ∧ Builtin.Range.small a b c = true ∧ Builtin.Range.rangeSize a b c = ((n : Nat) : Int) ∧ n ≤ sizeLine ∧
    (∀ I St, Asg prog w A h₀ L m env target scope cl news n (fun i v => ∃ t, v = .int (a + (i : Int) * c) t) I St Bnd) ∧
    Elem prog w A h₀ L m env elt ifs scope cl news n Bnd R ∧ GFin h₀ L mf news n R (K s₁)
theorem range_walksC {I : Addr} (hh : A.handled = none) (a c : Int) (n : Nat) : Walks prog w A I [I] [I] n (fun i v => ∃ t, v = .int (a + (i : Int) * c) t) (fun i h => IsRangeIter h I (a + (i : Nat) * c) ((n : Int) - (i : Nat)) c) :=
  let W : Walks prog w A I [I] [I] n (fun i v => i < n ∧ ∃ t, v = .int (a + i * c) t) (fun i h => IsRangeIter h I (a + (i : Nat) * c) ((n : Int) - (i : Nat)) c) := (Walks.range hh I a c n).bound
  { sub := W.sub, frame := W.frame, done := W.done, self := W.self,
    item := fun i s Q E hi st hQ => W.item i s Q E hi st fun v h' tk hP => hQ v h' tk hP.2 }
theorem src_block {elt iter target : Expr} {ifs : List Expr} {scope : Scope} {cl : List (Str × Addr)} {pos : Pos} {xv : Value} {s₁ : Shared} {mf : Addr → Str → Option Value} {K : Shared → Heap → Nat → Addr → Prop} {RR : Value → Addr → Result → Shared → Prop}
    (hcell : ∀ y ∈ scope.names, y.2 ≠ .cell) (hkind : scope.kind = .function)
    (h : SrcGL prog w A h₀ L m env elt target ifs scope cl mf K xv s₁ ∨ SrcGR prog w A h₀ L m env elt target ifs scope cl mf K xv s₁)
    (hRR : ∀ (s₂ : Shared) D C h tk m' news', (∃ g, s₂ = { s₁ with heap := g }) → Fr h₀ L h m → h.Ns C m' → h₀.get? C = none → C ≠ L → C ≠ D → News h₀ L h news' → (∀ p ∈ news', p.1 ≠ C) →
      (∀ h' tk', Fr h₀ L h' (mf D) → News h₀ L h' news' → K s₁ h' tk' D) → RR (.ref D) C (.ok .next) { s₂ with heap := h, toks := tk }) :
    wpAny (model prog w) A (pyIter xv) (fun it s₂ => wpAny (model prog w) A (newList []) (fun acc s₃ => wpAny (model prog w) A (newFunctionEnv scope env.globals cl [] env.qual none .none (some env)) (fun cenv s₄ =>
      codeAny (model prog w) A (.compStart (.ListComp elt [⟨target, iter, ifs, 0⟩] scope pos) 0 it acc { cenv with scope := relabel scope env }) (RR acc cenv.locals) s₄) E s₃) E s₂) E s₁ := by
  rcases h with ⟨ax, its, news, Bnd, R, rfl, hh, F, N, S, hsz, asg, elem, fin⟩ | ⟨r, a, b, c, t, u, v, n, news, Bnd, R, rfl, hh, F, N, hr, hsm, hn, hsz, asg, elem, fin⟩
  · have hl := S.list F.keep N
    have hlt : ax < s₁.heap.objs.size := by obtain ⟨_, e, _⟩ := hl; exact Heap.lt_size e
    refine wpAny_pyIter_list hl ?_
    have up : ∀ b o, s₁.heap.get? b = some o → (s₁.heap.push { cls := .type "list_iterator", data := .fields #[.ref ax, .int 0 0] }).get? b = some o := fun b o e => Heap.get?_push_of_some _ e
    refine block_G Bnd R (Walks.list hh s₁.heap.objs.size ax (Nat.ne_of_lt hlt) its) hsz (fun i h st => by obtain ⟨o, e, _⟩ := st.1; exact ⟨o, e⟩) (fun i h h' o nw st e e' k N' sub => ⟨by obtain ⟨o', q, r⟩ := st.1; rw [e] at q; cases q; exact ⟨o, e', r⟩, SrcAt.list (S.imp id fun ⟨o, hm, r⟩ => ⟨o, sub _ hm, r⟩) k N'⟩) hcell hkind ⟨⟨_, Heap.get?_push_size _ rfl, rfl, rfl⟩, hl.push _⟩ (fun b hb => ?_)
      (F.keeps up) (N.grown up) (Nat.ne_of_lt F.ns.lt) (next_is_new F) (fun p hp => Nat.ne_of_lt (Heap.lt_size (N p hp).1)) (asg _) elem ?_
    · show b < (s₁.heap.push _).objs.size
      rw [Heap.size_push]
      rcases List.mem_cons.mp hb with rfl | hb
      · exact Nat.lt_succ_self _
      · rw [List.mem_singleton.mp hb]; exact Nat.lt_succ_of_lt hlt
    · intro D C h tk m' yos ex F' N' o1 hn hC₀ hD₀ hCL hDL hCD offC hy hG
      refine hRR _ D C h tk m' _ ⟨_, rfl⟩ F' hn hC₀ hCL hCD N' (fun p hp => ?_) fun h' tk' F'' N'' => fin D h' tk' yos ex F'' N'' o1 hy hG
      rcases List.mem_cons.mp hp with rfl | hp
      · exact Ne.symm hCD
      · exact offC p hp
  · refine wpAny_pyIter_range hr hsm ?_
    refine block_G Bnd R (range_walksC hh a c n) hsz (fun i h st => ⟨_, st⟩) (fun i h h' o nw st e e' _ _ _ => by have st' : h.get? s₁.heap.objs.size = some _ := st; show h'.get? s₁.heap.objs.size = some _; rw [e', ← e]; exact st') hcell hkind (by show IsRangeIter _ _ _ _ _; rw [hn]; simpa using Heap.get?_push_size _ rfl) (fun b hb => ?_)
      (F.keeps fun _ _ e => Heap.get?_push_of_some _ e) (N.grown fun _ _ e => Heap.get?_push_of_some _ e) (Nat.ne_of_lt F.ns.lt) (next_is_new F) (fun p hp => Nat.ne_of_lt (Heap.lt_size (N p hp).1)) (asg s₁.heap.objs.size (fun i h => IsRangeIter h s₁.heap.objs.size (a + (i : Nat) * c) ((n : Int) - (i : Nat)) c)) elem ?_
    · rw [List.mem_singleton.mp hb]
      show s₁.heap.objs.size < (s₁.heap.push _).objs.size
      rw [Heap.size_push]; exact Nat.lt_succ_self _
    · intro D C h tk m' yos ex F' N' o1 hn' hC₀ hD₀ hCL hDL hCD offC hy hG
      refine hRR _ D C h tk m' _ ⟨_, rfl⟩ F' hn' hC₀ hCL hCD N' (fun p hp => ?_) fun h' tk' F'' N'' => fin D h' tk' yos ex F'' N'' o1 hy hG
      rcases List.mem_cons.mp hp with rfl | hp
      · exact Ne.symm hCD
      · exact offC p hp

/-- a comprehension as a value -/
theorem ListComp_G {elt iter target : Expr} {ifs : List Expr} {scope : Scope} {cl : List (Str × Addr)} {pos : Pos} {Q : Value → Shared → Prop} (_F₀ : Fr h₀ L s.heap m)
    (hclos : closureFor scope env = pure cl) (hcell : ∀ y ∈ scope.names, y.2 ≠ .cell) (hkind : scope.kind = .function)
    (hnames : ∀ y ∈ scope.names, y.2 = .local → scope.names.lookup y.1 = some .local)
    (h : wpAny (model prog w) A (eval iter env) (fun xv s₁ => SrcGL prog w A h₀ L m env elt target ifs scope cl (fun _ => m) (fun s₁ h tk D => Q (.ref D) { s₁ with heap := h, toks := tk }) xv s₁ ∨ SrcGR prog w A h₀ L m env elt target ifs scope cl (fun _ => m) (fun s₁ h tk D => Q (.ref D) { s₁ with heap := h, toks := tk }) xv s₁) E s)
    (hs : ∀ x, foldedSetIterable iter env x = pure x := by intro _; rfl) :
    wpAny (model prog w) A (eval (.ListComp elt [⟨target, iter, ifs, 0⟩] scope pos) env) Q E s := by
  rw [eval_ListComp]
  refine wpAny_comprehension_free (use := none) rfl hs hclos hkind hnames (wpAny_mono h (fun xv s₁ h₁ => ?_) fun _ _ e => e)
  refine src_block hcell hkind h₁ fun s₂ D C h tk m' news' hs₂ F' hn hC₀ hCL hCD N' offC fin => ?_
  obtain ⟨g, rfl⟩ := hs₂
  refine ⟨m', hn, fun h'' hs'' => fin h'' tk (F'.change hs'' hCL hC₀) fun p hp => ?_⟩
  exact ⟨hs''.extBut _ _ (offC p hp) (N' p hp).1, (N' p hp).2⟩
/-- a comprehension assigned to a local name -/
theorem Assign_ListComp_G {elt iter target : Expr} {ifs : List Expr} {y : Str} {py : Pos} {scope : Scope} {cl : List (Str × Addr)} {pos spos : Pos} {Q : Flow → Shared → Prop} (_F₀ : Fr h₀ L s.heap m) (hLe : env.locals = L)
    (hsw : swapsWith (.ListComp elt [⟨target, iter, ifs, 0⟩] scope pos) (some (.Name y py)) spos.line env = pure true)
    (hclos : closureFor scope env = pure cl) (hcell : ∀ z ∈ scope.names, z.2 ≠ .cell) (hkind : scope.kind = .function)
    (hnames : ∀ z ∈ scope.names, z.2 = .local → scope.names.lookup z.1 = some .local)
    (hy : env.kindOf y = some .local) (hp : (env.scope.kind == .class || (env.scope.kind == .module && env.locals != env.globals)) = false)
    (h : wpAny (model prog w) A (eval iter env) (fun xv s₁ => ∃ m₁, SrcGL prog w A h₀ L m₁ env elt target ifs scope cl (fun D z => if z = y then some (.ref D) else m₁ z) (fun s₁ h tk _ => Q .next { s₁ with heap := h, toks := tk }) xv s₁ ∨
      SrcGR prog w A h₀ L m₁ env elt target ifs scope cl (fun D z => if z = y then some (.ref D) else m₁ z) (fun s₁ h tk _ => Q .next { s₁ with heap := h, toks := tk }) xv s₁) E s)
    (hs : ∀ x, foldedSetIterable iter env x = pure x := by intro _; rfl) :
    wpAny (model prog w) A (exec (.Assign [.Name y py] (.ListComp elt [⟨target, iter, ifs, 0⟩] scope pos) spos) env) Q E s := by
  subst hLe
  rw [exec_Assign_Name_used _ _ _ _ hsw]
  refine wpAny_bind (wpAny_standAt (wpAny_bind ?_))
  show wpAny _ A (do let _ ← comprehension (.ListComp elt [⟨target, iter, ifs, 0⟩] scope pos) scope env _ (newList []) false (eval iter env) (some (assign (.Name y py) env))) _ _ s
  refine wpAny_bind (wpAny_mono (wpAny_comprehension_free (use := some (assign (.Name y py) env)) (Q := fun _ s' => Q .next s') rfl hs hclos hkind hnames
    (wpAny_mono h (fun xv s₁ h₁ => ?_) fun _ _ e => e)) (fun _ s' hq => wpAny_pure (wpAny_pure hq)) fun _ _ e => e)
  obtain ⟨m₁, h₁⟩ := h₁
  refine src_block (m := m₁) hcell hkind h₁ fun s₂ D C h tk m' news' hs₂ F' hn hC₀ hCL hCD N' offC fin => ?_
  obtain ⟨g, rfl⟩ := hs₂
  show wpAny _ A (assign (.Name y py) env (.ref D)) _ _ _
  refine wpAny_assign_Name (wpAny_storeName_local hy F'.ns (fun h₂ hn₂ hs₂ => ?_) hp)
  have hL₀ : h₀.get? env.locals = none := Heap.get?_none_of_le F'.above
  refine ⟨m', hn.sameBut hs₂ hCL, fun h'' hs'' => fin h'' _ ⟨hn₂.sameBut hs'' (Ne.symm hCL), fun b o e => ?_, F'.above⟩ fun p hp => ⟨?_, (N' p hp).2⟩⟩
  · exact hs''.extBut _ _ (fun q => by rw [q, hC₀] at e; cases e) (hs₂.extBut _ _ (fun q => by rw [q, hL₀] at e; cases e) (F'.keep b o e))
  · exact hs''.extBut _ _ (offC p hp) (hs₂.extBut _ _ (N' p hp).2.1 (N' p hp).1)
end
end
end
section
/-! comprehensions: ints from ints -/
open PySem PySem.W PyProof.Rows PySem.Calls PySem.Spec
open PyProof.Rows.LCg
set_option Elab.async false
set_option maxRecDepth 100000
set_option maxHeartbeats 1000000
section
theorem ints_of {f : Int → Int} : ∀ {yos : List (Option Value)} {ns : List Int}, yos.length = ns.length → (∀ (j : Nat) (yo : Option Value), yos[j]? = some yo → ∃ n t, ns[j]? = some n ∧ yo = some (.int (f n) t)) → IntsAre (yos.filterMap id) (ns.map f)
  | [], [], _, _ => .nil
  | yo :: r, n :: ns, hl, h => by
    obtain ⟨n', t, e1, e2⟩ := h 0 yo rfl
    simp only [List.getElem?_cons_zero, Option.some.injEq] at e1
    subst e1 e2
    show IntsAre (.int (f n) t :: r.filterMap id) (f n :: ns.map f)
    exact .cons _ _ (ints_of (by simpa using hl) fun j yo hj => by simpa using h (j + 1) yo (by simpa using hj))
  | [], _ :: _, hl, _ => by simp at hl
  | _ :: _, [], hl, _ => by simp at hl
theorem off1_ne {D : Addr} : ∀ {l : List (Addr × Obj)}, Off1 D l → AllNe D l
  | [], _ => trivial
  | _ :: _, h => ⟨h.1, off1_ne h.2⟩
theorem allNe_left {D : Addr} {l r : List (Addr × Obj)} (h : AllNe D (l ++ r)) : AllNe D l := allNe_of fun p hp => allNe_mem h p (List.mem_append_left _ hp)
theorem lst_lstObj (ys : List Value) : lst ys = lstObj ys ys.length := rfl
section
variable {prog : Program} {w : World} {A : Around} {E : Value → Shared → Prop} {h₀ : Heap} {L : Addr} {m : Str → Option Value} {env : Env} {elt : Expr} {x : Str} {px : Pos} {scope : Scope} {cl : List (Str × Addr)} {news : List (Addr × Obj)} {mf : Addr → Str → Option Value} {K : Shared → Heap → Nat → Addr → Prop} {s₁ : Shared} {ax : Addr}
theorem srcGL_ints {vs : List Value} {ns : List Int} (f : Int → Int) (hh : A.handled = none) (F : Fr h₀ L s₁.heap m) (N : News h₀ L s₁.heap news) (S : SrcAt h₀ ax vs.toArray news) (hI : IntsAre vs ns) (hsz : vs.length ≤ sizeLine)
    (hx : scope.names.lookup x = some .local) (hkind : scope.kind = .function)
    (elem : ∀ (n : Int) (t : Tok) I oI C oC D ys m₂ ex (s' : Shared) (E' : Value → Shared → Prop), n ∈ ns → m₂ x = some (.int n t) → NsObj oC m₂ → Fr h₀ L s'.heap m → News h₀ L s'.heap ((I, oI) :: (C, oC) :: (D, lst ys) :: (news ++ ex)) → Off3 I C D news → ((@Ne Nat I C) ∧ (@Ne Nat I D) ∧ (@Ne Nat C D)) →
      wpAny (model prog w) A (eval elt (compEnvC scope cl C env)) (fun y s'' => ∃ t', y = .int (f n) t' ∧ GEnd h₀ L m ((I, oI) :: (C, oC) :: (D, lst ys) :: (news ++ ex)) I C D (fun _ _ => True) none s' s'') E' s')
    (fin : ∀ D h tk ys e, Fr h₀ L h (mf D) → News h₀ L h ((D, lstObj ys e) :: news) → AllNe D news → IntsAre ys (ns.map f) → K s₁ h tk D) :
    SrcGL prog w A h₀ L m env elt (.Name x px) [] scope cl mf K (.ref ax) s₁ := by
  have hsz' : vs.toArray.size = vs.length := List.size_toArray ..
  refine ⟨ax, vs.toArray, news, _, fun i yo _ => ∃ n t, ns[i]? = some n ∧ yo = some (.int (f n) t), rfl, hh, F, N, S, by rw [hsz']; exact hsz, fun I => asg_name hx hkind, ?_, ?_⟩
  · intro i I oI C oC D ys m₂ ex s' E' hi hB hC F' N' off ne
    obtain ⟨v, hv, hm⟩ := hB
    have hi' : i < ns.length := by rw [hsz', hI.length] at hi; exact hi
    obtain ⟨t, hv2⟩ := hI.get i _ (List.getElem?_eq_getElem hi')
    have : v = .int ns[i] t := by
      have h1 : vs[i]? = some v := by simpa using hv
      rw [h1] at hv2; exact Option.some.inj hv2
    subst this
    refine wpAny_tests_nil ?_
    rw [if_pos rfl]
    refine wpAny_mono (elem ns[i] t I oI C oC D ys m₂ ex s' E' (List.getElem_mem hi') hm hC F' N' off ne) (fun y s'' h => ?_) fun _ _ e => e
    obtain ⟨t', rfl, h', tk, e, rfl, x1, x2, x3, -⟩ := h
    exact ⟨h', tk, e, rfl, x1, x2, x3, ns[i], t', List.getElem?_eq_getElem hi', rfl⟩
  · intro D h tk yos ex F' N' o1 hl hG
    have hI' : IntsAre (yos.filterMap id) (ns.map f) := ints_of (by rw [hl, hsz', hI.length]) fun j yo hj => by obtain ⟨e, h1, -⟩ := hG j yo hj; exact h1
    refine fin D h tk (yos.filterMap id) (yos.filterMap id).length F' (fun p hp => N' p ?_) (allNe_left (off1_ne o1)) hI'
    rcases List.mem_cons.mp hp with rfl | hp
    · exact .head _
    · exact .tail _ (List.mem_append_left _ hp)
end
end
end
section
open PySem PySem.W PyProof.Rows PySem.Calls PySem.Spec
set_option Elab.async false
set_option maxRecDepth 100000
set_option maxHeartbeats 1000000
section
/-- a list of refs to pairs of ints -/
noncomputable def PtsAre (h : Heap) (vs : List Value) (ps : List (Int × Int)) : Prop :=
  vs.length = ps.length ∧ ∀ i (hi : i < ps.length), ∃ t ta tb, vs[i]? = some (.ref t) ∧ h.get? t = some (tup2 (.int ps[i].1 ta) (.int ps[i].2 tb))
theorem PtsAre.keeps {h h' : Heap} {vs : List Value} {ps : List (Int × Int)} (x : PtsAre h vs ps) (hk : ∀ b o, h.get? b = some o → h'.get? b = some o) : PtsAre h' vs ps :=
  ⟨x.1, fun i hi => let ⟨t, ta, tb, e, ho⟩ := x.2 i hi; ⟨t, ta, tb, e, hk _ _ ho⟩⟩
section
variable {prog : Program} {w : World} {A : Around} {E : Value → Shared → Prop} {s : Shared} {env : Env} {h₀ : Heap} {x : Str} {body : List Stmt} {Q : Flow → Shared → Prop}
theorem iter_rng {r : Addr} {a b : Int} {t u v₀ : Tok} {n : Nat} {m₀ : Str → Option Value} {news : List (Addr × Obj)} (J : Nat → (Str → Option Value) → List (Addr × Obj) → Prop)
    (hh : A.handled = none) (hr : IsRange s.heap r a b 1 t u v₀) (hsm : Builtin.Range.small a b 1 = true) (hn : Builtin.Range.rangeSize a b 1 = (n : Int)) (F : Fr h₀ env.locals s.heap m₀) (N : News h₀ env.locals s.heap news) (hj : J 0 m₀ news)
    (turn : ∀ I i t m₁ nx h tk oI, i < n → J i m₁ nx → AllNe I nx → Fr h₀ env.locals h (fun y => if y = x then some (.int (a + (i : Int)) t) else m₁ y) → News h₀ env.locals h ((I, oI) :: nx) →
      wpAny (model prog w) A (execs body env) (LedPost h₀ env.locals I oI (J (i + 1)) { s with heap := h, toks := tk } Q) E { s with heap := h, toks := tk })
    (done : ∀ m₁ nx h tk, J n m₁ nx → Fr h₀ env.locals h m₁ → News h₀ env.locals h nx → Q .next { s with heap := h, toks := tk }) :
    wpAny (model prog w) A (pyIter (.ref r)) (fun it s₂ => LoopAtV prog w A h₀ env x body Q E it s₂) E s := by
  refine wpAny_pyIter_range hr hsm ?_
  have W := range_walksC (prog := prog) (w := w) (I := s.heap.objs.size) hh a 1 n
  refine loop_led (I := s.heap.objs.size) J W ?_ (next_is_new F) (by simp) ?_ ?_ (by show IsRangeIter _ _ _ _ _; rw [hn]; simpa using Heap.get?_push_size _ rfl) (F.push _) (fun p hp => ⟨Heap.get?_push_of_some _ (N p hp).1, (N p hp).2⟩) ?_ hj ?_ ?_
  · intro hm
    exact absurd F.ns.lt ((List.mem_singleton.mp hm) ▸ Nat.lt_irrefl _)
  · intro b hb
    exact .inl (List.mem_singleton.mp hb)
  · intro i h st; exact ⟨_, st⟩
  · exact allNe_of fun p hp e => absurd (Heap.lt_size (N p hp).1) (e ▸ Nat.lt_irrefl _)
  · intro i v m₁ nx h tk oI hi hP hJ hne' F' N'
    obtain ⟨t, rfl⟩ := hP
    rw [Int.mul_one] at F'
    exact turn s.heap.objs.size i t m₁ nx h tk oI hi hJ hne' F' N'
  · exact done
end
end
section
section
variable {prog : Program} {w : World} {A : Around} {E : Value → Shared → Prop} {s : Shared} {h₀ : Heap} {L l : Addr} {m : Str → Option Value} {news : List (Addr × Obj)} {vs : List Value} {Q : Value → Shared → Prop}
theorem len_base {n : Nat} (F : Fr h₀ L s.heap m) (hl : h₀.IsList l vs.toArray) (hn : vs.length = n) (hfit : n ≤ 1000000)
    (h : Q (.int (n : Int) (s.toks + 1)) { s with toks := s.toks + 1 + 1 }) : wpAny (model prog w) A (call (.builtin "len") [.ref l]) Q E s := by
  have hls : s.heap.IsList l vs.toArray := hl.at fun o e => F.keep l o e
  have e2 : vs.toArray.size = n := by rw [List.size_toArray, hn]
  exact len_list hls (by rw [e2]; omega) (by rw [e2]; exact h)
end
end
section
section
variable {prog : Program} {w : World} {A : Around} {E : Value → Shared → Prop} {s : Shared} {h₀ : Heap} {L l : Addr} {m : Str → Option Value} {news : List (Addr × Obj)} {vs : List Value} {Q : Value → Shared → Prop}
theorem item_any {value slice : PySem.Expr} {k : Int} {u : Tok} {v : Value} {j : Nat} {ops : List Value} (hl : s.heap.IsList l vs.toArray) (hx : vs[j]? = some v) (hk : k = (j : Int) ∨ k = (j : Int) - (vs.length : Int)) (hlen : vs.length ≤ 1000000) (h : Q v s)
    (hs : subscripted slice false (.ref l) (.int k u) = operate ops (getItem (.ref l) (.int k u))) :
    wpAny (model prog w) A (subscriptTail value slice (.ref l) (.int k u)) Q E s := by
  have hj : j < vs.length := by
    rcases Nat.lt_or_ge j vs.length with h | h
    · exact h
    · rw [List.getElem?_eq_none h] at hx; cases hx
  have es : vs.toArray.size = vs.length := List.size_toArray ..
  refine tail_any hl.typeIs slot_list_getitem.lookup ?_ hs
  rcases hk with rfl | hk
  · exact wpAny_getItem_list hl (Int.natCast_nonneg _) (by omega) (by simpa using hx) h
  · refine wpAny_getItem_list_neg hl (by omega) (by rw [es]; omega) (by omega) ?_ h
    have e2 : (k + (vs.toArray.size : Int)).toNat = j := by rw [es]; omega
    rw [e2]; simpa using hx
theorem idm_led {w : World} {loose : List Str} {mean : ExcName → Option Value} {mg mb : Str → Option Value} {dp un : Nat} {fr : Option (List Env)} {gd : Option (List Code)} {g₀ : Heap} {D0 : Nat} {a b : Int} {ta tb : Tok} {ps : Array Value} {g : Obj → List (Addr × Obj)} (H : IdmC w D0 a b) (G : Gd w loose mean mg mb g₀) (S : g₀.StaysIn h₀) (hd : dp < D0) (F : Fr h₀ L s.heap m) (N : News h₀ L s.heap news) (hf : Full44 h₀)
    (U : UpdF 51 (tabObj ps) news g) (hps : TabPs 88 4 q51 ps s.heap)
    (h1 : ps ≠ #[] → ∀ D h' tk t1 t2, Fr h₀ L h' m → News h₀ L h' ((D, tup2 (.int (a.fdiv b) t1) (.int (a.fmod b) t2)) :: news) → AllNe D news → Q (.ref D) { s with heap := h', toks := tk })
    (h2 : ps = #[] → ∀ D h' tk t1 t2 c oc us uq, Fr h₀ L h' m → News h₀ L h' ((D, tup2 (.int (a.fdiv b) t1) (.int (a.fmod b) t2)) :: (c, oc) :: g (tab51 c)) → AllNe D news → AllNe c news → oc.data = .fields us → us[1]? = some (.str q51 uq) → Q (.ref D) { s with heap := h', toks := tk }) :
    wpAny (model PySem.Challenge.rw_rl0058_01.row.prog w) (AA dp fr gd un) (call (.ref 70) [.int a ta, .int b tb]) Q E s := by
  have z := N (51, tabObj ps) (by obtain ⟨pre, post, hl, -⟩ := U.split; rw [hl]; exact List.mem_append_right _ (.head _))
  refine H loose mean mg mb dp un fr gd s Q E g₀ ta tb G (fun b o e => F.keep b o (S b o e)) hd (hf.keeps F.keep) ⟨ps, z.1, hps⟩ fun D h' tk' t1 t2 hk hs hD ho => ?_
  rcases led51 F N U hk hs hD ho with ⟨hne, x1, x2, x3⟩ | ⟨he, c, oc, us, uq, x1, x2, x3, x4, x5, x6⟩
  · exact h1 hne D h' tk' t1 t2 x1 x2 x3
  · exact h2 he D h' tk' t1 t2 c oc us uq x1 x2 x3 x4 x5 x6
end
/-- the division's numerator and divisor at a place of the ring -/
noncomputable def numAt (ps : List (Int × Int)) (pi i ni : Nat) : Int × Int :=
  if (ps.getD i (0, 0)).1 ≠ 0 then ((ps.getD pi (0, 0)).1 + (ps.getD ni (0, 0)).1, (ps.getD i (0, 0)).1) else ((ps.getD pi (0, 0)).2 + (ps.getD ni (0, 0)).2, (ps.getD i (0, 0)).2)
noncomputable def prevI (n i : Nat) : Nat := if i = 0 then n - 1 else i - 1
noncomputable def nextI (n i : Nat) : Nat := (i + 1) % n
noncomputable def divAt (ps : List (Int × Int)) (i : Nat) : Int × Int :=
  ((numAt ps (prevI ps.length i) i (nextI ps.length i)).1.fdiv (numAt ps (prevI ps.length i) i (nextI ps.length i)).2, (numAt ps (prevI ps.length i) i (nextI ps.length i)).1.fmod (numAt ps (prevI ps.length i) i (nextI ps.length i)).2)
theorem prev_ix {n i : Nat} (h : i < n) : prevI n i < n ∧ (((i : Int) - 1 = (prevI n i : Int)) ∨ ((i : Int) - 1 = (prevI n i : Int) - (n : Int))) := by
  unfold prevI; split <;> omega
theorem next_ix {n i : Nat} (h : i < n) : nextI n i < n ∧ (((i : Int) + 1).fmod (n : Int) = (nextI n i : Int)) := by
  unfold nextI
  refine ⟨Nat.mod_lt _ (by omega), ?_⟩
  rw [Int.fmod_eq_emod_of_nonneg _ (Int.natCast_nonneg _), Int.natCast_emod]
  rfl
end
section
theorem map_stored {x : Str} {st : List Str} {m₁ m₀ : Str → Option Value} {v : Option Value} (hm : ∀ z, z ≠ x → st.contains z = false → m₁ z = m₀ z) :
    (fun z => if z = x then v else m₁ z) = fun z => if z = x then v else if st.contains z then m₁ z else m₀ z := by
  funext z
  by_cases h1 : z = x
  · rw [if_pos h1, if_pos h1]
  · rw [if_neg h1, if_neg h1]
    by_cases h2 : st.contains z = true
    · rw [if_pos h2]
    · rw [if_neg h2, hm z h1 (by simpa using h2)]
theorem PtsAre.at {h : Heap} {vs : List Value} {ps : List (Int × Int)} (x : PtsAre h vs ps) {i : Nat} (hi : i < ps.length) : ∃ t ta tb, vs[i]? = some (.ref t) ∧ h.get? t = some (tup2 (.int (ps.getD i (0, 0)).1 ta) (.int (ps.getD i (0, 0)).2 tb)) := by
  obtain ⟨t, ta, tb, e, ho⟩ := x.2 i hi
  have : ps.getD i (0, 0) = ps[i] := by rw [List.getD_eq_getElem?_getD, List.getElem?_eq_getElem hi]; rfl
  rw [this]
  exact ⟨t, ta, tb, e, ho⟩
end
section
section
variable {prog : Program} {w : World} {A : Around} {E : Value → Shared → Prop} {s : Shared} {h₀ : Heap} {L t : Addr} {m : Str → Option Value} {news : List (Addr × Obj)} {env : Env}
theorem unpack_base {elts : List PySem.Expr} {k : Nat} {pos : Pos} {v1 v2 : Value} {Q : Unit → Shared → Prop} (F : Fr h₀ L s.heap m) (N : News h₀ L s.heap news) (ho : h₀.get? t = some (tup2 v1 v2)) (hh : A.handled = none)
    (hn : (assignEach elts env).length = 2) (hstar : (assignEach elts env).findIdx? (·.1) = none)
    (h : ∀ h', Fr h₀ L h' m → News h₀ L h' news → wpAny (model prog w) A (assignInOrder ((assignEach elts env).map (·.2)) [v1, v2]) Q E { s with heap := h' }) :
    wpAny (model prog w) A (assign (.Tuple elts k pos) env (.ref t)) Q E s :=
  assign_seq (items := #[v1, v2]) hh (.inl ⟨_, F.keep _ _ ho, rfl, 0, rfl⟩) hn hstar fun h' hk => h h' (F.keeps hk) (N.grown hk)
end
end
section
theorem divAt_ne {ps : List (Int × Int)} {i : Nat} (h : (ps.getD i (0, 0)).1 ≠ 0) : divAt ps i = (((ps.getD (prevI ps.length i) (0, 0)).1 + (ps.getD (nextI ps.length i) (0, 0)).1).fdiv (ps.getD i (0, 0)).1, ((ps.getD (prevI ps.length i) (0, 0)).1 + (ps.getD (nextI ps.length i) (0, 0)).1).fmod (ps.getD i (0, 0)).1) := by
  unfold divAt numAt; rw [if_pos h]
theorem divAt_eq {ps : List (Int × Int)} {i : Nat} (h : (ps.getD i (0, 0)).1 = 0) : divAt ps i = (((ps.getD (prevI ps.length i) (0, 0)).2 + (ps.getD (nextI ps.length i) (0, 0)).2).fdiv (ps.getD i (0, 0)).2, ((ps.getD (prevI ps.length i) (0, 0)).2 + (ps.getD (nextI ps.length i) (0, 0)).2).fmod (ps.getD i (0, 0)).2) := by
  unfold divAt numAt; rw [if_neg (fun q => q h)]
theorem getD_mem {ps : List (Int × Int)} {i : Nat} (hi : i < ps.length) : ps.getD i (0, 0) ∈ ps := by
  have : ps.getD i (0, 0) = ps[i] := by rw [List.getD_eq_getElem?_getD, List.getElem?_eq_getElem hi]; rfl
  rw [this]; exact List.getElem_mem hi
/-- the pairs so far, with one more -/
theorem pairs_snoc {ps : List (Int × Int)} {i : Nat} {pv : List Value} {objs : List (Addr × Obj)} {D : Addr} {t1 t2 : Tok} {q r : Int} (hl : pv.length = i)
    (h : ∀ j, j < i → ∃ t ta tb, pv[j]? = some (.ref t) ∧ (t, tup2 (.int (divAt ps j).1 ta) (.int (divAt ps j).2 tb)) ∈ objs) (hq : divAt ps i = (q, r)) :
    ∀ j, j < i + 1 → ∃ t ta tb, (pv ++ [.ref D])[j]? = some (.ref t) ∧ (t, tup2 (.int (divAt ps j).1 ta) (.int (divAt ps j).2 tb)) ∈ (D, tup2 (.int q t1) (.int r t2)) :: objs := by
  intro j hj
  rcases Nat.lt_or_ge j i with h1 | h1
  · obtain ⟨t, ta, tb, e, hm⟩ := h j h1
    exact ⟨t, ta, tb, by rw [List.getElem?_append_left (by omega)]; exact e, .tail _ hm⟩
  · have : j = i := by omega
    subst this
    refine ⟨D, t1, t2, by rw [List.getElem?_append_right (by omega), hl]; simp, ?_⟩
    rw [hq]; exact .head _
end
section
theorem small_my {a b c : Int} (ha : -1000000 ≤ a ∧ a ≤ 1000000) (hb : -1000000 ≤ b ∧ b ≤ 1000000) (hc : 0 < c ∧ c ≤ 1000000) : Builtin.Range.small a b c = true := by
  have hs : 0 ≤ Builtin.Range.rangeSize a b c ∧ Builtin.Range.rangeSize a b c ≤ 2000001 := by
    unfold Builtin.Range.rangeSize
    rw [if_pos hc.1]
    split
    · have h1 := Int.ediv_nonneg (show 0 ≤ b - a - 1 by omega) (show 0 ≤ c by omega)
      have h2 := Int.ediv_le_self c (show 0 ≤ b - a - 1 by omega)
      omega
    · omega
  have fits : ∀ x : Int, -9000000 ≤ x → x ≤ 9000000 → Builtin.Range.rangeFitsLong x = true := fun x h1 h2 => by
    unfold Builtin.Range.rangeFitsLong
    rw [Bool.and_eq_true]
    exact ⟨decide_eq_true (by omega), decide_eq_true (by omega)⟩
  unfold Builtin.Range.small
  simp only [fits a (by omega) (by omega), fits b (by omega) (by omega), fits c (by omega) (by omega), fits _ (show -9000000 ≤ Builtin.Range.rangeSize a b c by omega) (by omega), Bool.and_self, Bool.true_and]
  rw [if_pos hc.1, fits _ (by omega) (by omega), Bool.or_true]
end
end
section
/-! a comprehension over an enumerate -/
open PySem PySem.W PyProof.Rows PySem.Calls PySem.Spec
open PyProof.Rows.LCg
set_option Elab.async false
set_option maxRecDepth 100000
set_option maxHeartbeats 1000000
section
noncomputable def GEnd2 (h₀ : Heap) (L : Addr) (m : Str → Option Value) (led : List (Addr × Obj)) (I I2 C D : Addr) (R : Option Value → List (Addr × Obj) → Prop) (yo : Option Value) (s' s'' : Shared) : Prop :=
  ∃ h' tk e, s'' = { s' with heap := h', toks := tk } ∧ Fr h₀ L h' m ∧ News h₀ L h' (e ++ led) ∧ Off3 I C D e ∧ AllNe I2 e ∧ R yo e
section
variable {prog : Program} {w : World} {A : Around} {E : Value → Shared → Prop} {s : Shared} {h₀ : Heap} {L : Addr} {m : Str → Option Value} {env : Env}
theorem block_T {elt iter : Expr} {elts : List Expr} {tk0 : Nat} {tp : Pos} {ifs : List Expr} {scope : Scope} {cl : List (Str × Addr)} {pos : Pos} {s₂ : Shared} {I I2 : Addr} {fp : List Addr} {n : Nat} {Pt : Nat → Array Value → Prop} {St : Nat → Heap → Prop} {Mid : Nat → Addr → Heap → Prop} {news : List (Addr × Obj)}
    {RR : Value → Addr → Result → Shared → Prop} (Bnd : Nat → (Str → Option Value) → Prop) (R : Nat → Option Value → List (Addr × Obj) → Prop)
    (W : WalksT prog w A I fp [I, I2] n Pt St Mid) (hsz : n ≤ sizeLine) (hIo : ∀ i h, St i h → ∃ o o2, h.get? I = some o ∧ h.get? I2 = some o2) (hh : A.handled = none) (hII : I ≠ I2)
    (hSt : ∀ i h h' o o2 nw, St i h → h.get? I = some o → h.get? I2 = some o2 → h'.get? I = some o → h'.get? I2 = some o2 → (∀ b o, h₀.get? b = some o → h'.get? b = some o) → News h₀ L h' nw → (∀ p ∈ news, p ∈ nw) → St i h')
    (hcell : ∀ y ∈ scope.names, y.2 ≠ .cell) (hkind : scope.kind = .function) (hst : St 0 s₂.heap) (hfp : ∀ b ∈ fp, b < s₂.heap.objs.size)
    (F : Fr h₀ L s₂.heap m) (N : News h₀ L s₂.heap news) (hIL : L ≠ I) (hI₀ : h₀.get? I = none) (off : ∀ p ∈ news, p.1 ≠ I) (hIL2 : L ≠ I2) (hI₀2 : h₀.get? I2 = none) (off2 : AllNe I2 news)
    (asg : ∀ i vals C m' (s' : Shared) (E' : Value → Shared → Prop) (Q' : Unit → Shared → Prop), i < n → Pt i vals → s'.heap.Ns C m' →
      (∀ h' tk' m₂, (∀ b o, b ≠ C → s'.heap.get? b = some o → h'.get? b = some o) → h'.Ns C m₂ → Bnd i m₂ → Q' () { s' with heap := h', toks := tk' }) →
      ∀ T, SeqAt s'.heap T vals → wpAny (model prog w) A (assign (.Tuple elts tk0 tp) (compEnvC scope cl C env) (.ref T)) Q' E' s')
    (elem : ∀ i I oI I2 oI2 C oC D ys m₂ ex (s' : Shared) (E' : Value → Shared → Prop), i < n → Bnd i m₂ → NsObj oC m₂ → Fr h₀ L s'.heap m → News h₀ L s'.heap ((I, oI) :: (I2, oI2) :: (C, oC) :: (D, lst ys) :: (news ++ ex)) → Off3 I C D news → AllNe I2 news → ((@Ne Nat I C) ∧ (@Ne Nat I D) ∧ (@Ne Nat C D)) →
      GTurn prog w A ifs elt (compEnvC scope cl C env) (fun yo s'' => GEnd2 h₀ L m ((I, oI) :: (I2, oI2) :: (C, oC) :: (D, lst ys) :: (news ++ ex)) I I2 C D (R i) yo s' s'') E' s')
    (hRR : ∀ D C h tk m' yos ex, Fr h₀ L h m → News h₀ L h ((D, lst (yos.filterMap id)) :: (news ++ ex)) → Off1 D (news ++ ex) → h.Ns C m' → h₀.get? C = none → h₀.get? D = none → C ≠ L → D ≠ L → C ≠ D → (∀ p ∈ news ++ ex, p.1 ≠ C) → yos.length = n → GAll R yos ex → RR (.ref D) C (.ok .next) { s₂ with heap := h, toks := tk }) :
    wpAny (model prog w) A (newList []) (fun acc s₃ => wpAny (model prog w) A (newFunctionEnv scope env.globals cl [] env.qual none .none (some env)) (fun cenv s₄ =>
      codeAny (model prog w) A (.compStart (.ListComp elt [⟨.Tuple elts tk0 tp, iter, ifs, 0⟩] scope pos) 0 (.ref I) acc { cenv with scope := relabel scope env }) (RR acc cenv.locals) s₄) E s₃) E s₂ := by
  refine wpAny_newObj_type (wpAny_newFunctionEnv hcell (by intro y hy; simp at hy) (fun h₁ hns₁ hsb₁ => ?_) hkind)
  dsimp only at hns₁ hsb₁ ⊢
  generalize hH2 : s₂.heap.push { cls := .type "list", dict := none, data := .seq ([] : List Value).toArray } = H2 at hns₁ hsb₁ ⊢
  have hC : H2.objs.size = s₂.heap.objs.size + 1 := by rw [← hH2, Heap.size_push]
  have hDC : s₂.heap.objs.size ≠ H2.objs.size := by rw [hC]; exact Nat.ne_of_lt (Nat.lt_succ_self _)
  have below : ∀ b, b < s₂.heap.objs.size → b ≠ H2.objs.size ∧ b ≠ s₂.heap.objs.size := fun b hb => ⟨by rw [hC]; exact Nat.ne_of_lt (Nat.lt_succ_of_lt hb), Nat.ne_of_lt hb⟩
  have hDf : s₂.heap.objs.size ∉ fp := fun hm => Nat.lt_irrefl _ (hfp _ hm)
  have hCf : H2.objs.size ∉ fp := fun hm => by have := hfp _ hm; rw [hC] at this; exact Nat.lt_irrefl _ (Nat.lt_of_succ_lt this)
  have hIf : I ∈ fp := W.sub I (.head _)
  have hIlt : I < s₂.heap.objs.size := hfp I hIf
  have hIf2 : I2 ∈ fp := W.sub I2 (.tail _ (.head _))
  have hIlt2 : I2 < s₂.heap.objs.size := hfp I2 hIf2
  have old : ∀ b o, s₂.heap.get? b = some o → h₁.get? b = some o := fun b o e => hsb₁.extBut b o (below b (Heap.lt_size e)).1 (Heap.get?_push_of_some _ (hH2 ▸ Heap.get?_push_of_some _ e))
  have hacc : h₁.get? s₂.heap.objs.size = some (lst []) := hsb₁.extBut _ _ hDC (Heap.get?_push_of_some _ (hH2 ▸ Heap.get?_push_size _ rfl))
  have hst₁ : St 0 h₁ := W.frame _ _ _ hst fun b _ o e => old b o e
  have fresh : ∀ a, s₂.heap.objs.size ≤ a → s₂.heap.get? a = none := fun a ha => by
    cases e : s₂.heap.get? a with
    | none => rfl
    | some o' => exact absurd (Heap.lt_size e) (Nat.not_lt.mpr ha)
  have fresh₀ : ∀ a, s₂.heap.objs.size ≤ a → h₀.get? a = none := fun a ha => by
    cases e : h₀.get? a with
    | none => rfl
    | some o' => have := F.keep a o' e; rw [fresh a ha] at this; cases this
  have hD₀ : h₀.get? s₂.heap.objs.size = none := fresh₀ _ (Nat.le_refl _)
  have hC₀ : h₀.get? H2.objs.size = none := fresh₀ _ (by rw [hC]; exact Nat.le_succ _)
  have hLlt : L < s₂.heap.objs.size := F.ns.lt
  have hDL : s₂.heap.objs.size ≠ L := Ne.symm (below L hLlt).2
  have hCL : H2.objs.size ≠ L := Ne.symm (below L hLlt).1
  have hCI : I ≠ H2.objs.size := (below I hIlt).1
  have hDI : I ≠ s₂.heap.objs.size := (below I hIlt).2
  have hCI2 : I2 ≠ H2.objs.size := (below I2 hIlt2).1
  have hDI2 : I2 ≠ s₂.heap.objs.size := (below I2 hIlt2).2
  have off₀ : Off3 I H2.objs.size s₂.heap.objs.size news := Off3.of fun p hp => ⟨off p hp, (below _ (Heap.lt_size (N p hp).1)).1, (below _ (Heap.lt_size (N p hp).1)).2⟩
  have loop : ∀ s₃ : Shared, s₃ = { s₂ with heap := h₁, toks := s₂.toks + ([] : List (Str × Value)).length } →
      codeAny (model prog w) A (.compLoop (.ListComp elt [⟨.Tuple elts tk0 tp, iter, ifs, 0⟩] scope pos) 0 (.ref I) (.ref s₂.heap.objs.size) (compEnvC scope cl H2.objs.size env))
        (RR (.ref s₂.heap.objs.size) H2.objs.size) s₃ := by
    rintro s₃ rfl
    refine codeAny_compLoop_gen
      (fun k s' => ∃ h' tk i yos m' ex, s' = { s₂ with heap := h', toks := tk } ∧ i ≤ n ∧ k = n + 1 - i ∧ yos.length = i ∧ St i h' ∧ Fr h₀ L h' m ∧ h'.Ns H2.objs.size m' ∧ News h₀ L h' ((s₂.heap.objs.size, lst (yos.filterMap id)) :: (news ++ ex)) ∧
        Off3 I H2.objs.size s₂.heap.objs.size (news ++ ex) ∧ AllNe I2 (news ++ ex) ∧ GAll R yos ex) ?_ (n + 1)
      ⟨h₁, _, 0, [], _, [], rfl, Nat.zero_le _, rfl, rfl, hst₁, F.keeps old, hns₁, fun p hp => ?_, (List.append_nil news).symm ▸ off₀, (List.append_nil news).symm ▸ off2, fun j yo e => by simp at e⟩
    · intro k s' hJ9
      refine letP ?_
      intro GG
      obtain ⟨h', tk, i, yos, m', ex, rfl, hi, rfl, hyl, hst', F', hn', N', off', offi', hG⟩ := hJ9
      have off3 := off'.mem
      by_cases hlt : i < n
      · refine W.item i _ _ _ hlt hst' fun T vals h₂ tk₂ hPv _ hT hMid hk₂ => ?_
        have nw : ∀ b, b ≠ I → b ≠ I2 → b ∉ [I, I2] := fun b h1 h2 hm => by
          rcases List.mem_cons.mp hm with q | hm
          · exact h1 q
          · exact h2 (List.mem_singleton.mp hm)
        refine W.go elts tk0 tp i T _ _ _ hMid fun h₂' hst₂ hk₂' => ?_
        have kk : ∀ b o, b ≠ I → b ≠ I2 → h'.get? b = some o → h₂'.get? b = some o := fun b o h1 h2 e => hk₂' b o (nw b h1 h2) (hk₂ b o (nw b h1 h2) e)
        have hns₂ : h₂'.Ns H2.objs.size m' := hn'.at' fun o e => kk _ o (Ne.symm hCI) (Ne.symm hCI2) e
        have F₂ : Fr h₀ L h₂' m := ⟨F'.ns.at' fun o e => kk L o hIL hIL2 e, fun b o e => kk b o (fun q => by rw [q, hI₀] at e; cases e) (fun q => by rw [q, hI₀2] at e; cases e) (F'.keep b o e), F'.above⟩
        have N₂ : News h₀ L h₂' ((s₂.heap.objs.size, lst (yos.filterMap id)) :: (news ++ ex)) := fun p hp => by
          refine ⟨kk _ _ ?_ ?_ (N' p hp).1, (N' p hp).2⟩
          · rcases List.mem_cons.mp hp with rfl | hp
            · exact Ne.symm hDI
            · exact (off3 p hp).1
          · rcases List.mem_cons.mp hp with rfl | hp
            · exact Ne.symm hDI2
            · exact allNe_mem offi' p hp
        have hT' : SeqAt h₂' T vals := .inl (by
          obtain ⟨oT, eT, cT, nT, dT⟩ := hT
          exact ⟨oT, hk₂' T oT (W.apart i T _ hMid) eT, cT, nT, dT⟩)
        refine asg i vals H2.objs.size m' _ _ _ hlt hPv hns₂ (fun h₃ tk₃ m₂ old3 hn₃ hB => ?_) T hT'
        have hst₃ : St (i + 1) h₃ := W.frame _ _ _ hst₂ fun b hb o e => old3 b o (fun q => hCf (by rw [← q]; exact hb)) e
        refine letP ?_
        intro GG
        obtain ⟨oI, oI2, heI, heI2⟩ := hIo _ _ hst₃
        obtain ⟨oC, heC, hoC⟩ := ns_obj hn₃
        have F₃ : Fr h₀ L h₃ m := ⟨F₂.ns.at' fun o e => old3 L o hCL.symm e, fun b o e => old3 b o (fun q => by rw [q, hC₀] at e; cases e) (F₂.keep b o e), F₂.above⟩
        have N₃ : News h₀ L h₃ ((I, oI) :: (I2, oI2) :: (H2.objs.size, oC) :: (s₂.heap.objs.size, lst (yos.filterMap id)) :: (news ++ ex)) := fun p hp => by
          rcases List.mem_cons.mp hp with rfl | hp
          · exact ⟨heI, Ne.symm hIL, hI₀⟩
          rcases List.mem_cons.mp hp with rfl | hp
          · exact ⟨heI2, Ne.symm hIL2, hI₀2⟩
          · rcases List.mem_cons.mp hp with rfl | hp
            · exact ⟨heC, hCL, hC₀⟩
            · have z := N₂ p hp
              refine ⟨old3 _ _ ?_ z.1, z.2⟩
              rcases List.mem_cons.mp hp with rfl | hp
              · exact hDC
              · exact (off3 p hp).2.1
        have fin : ∀ (yo : Option Value) (h₄ : Heap) (e : List (Addr × Obj)), Fr h₀ L h₄ m → News h₀ L h₄ (e ++ (I, oI) :: (I2, oI2) :: (H2.objs.size, oC) :: (s₂.heap.objs.size, lst (yos.filterMap id)) :: (news ++ ex)) → Off3 I H2.objs.size s₂.heap.objs.size e → AllNe I2 e → R i yo e →
            St (i + 1) h₄ ∧ News h₀ L h₄ ((I, oI) :: (I2, oI2) :: (H2.objs.size, oC) :: (s₂.heap.objs.size, lst (yos.filterMap id)) :: (news ++ (ex ++ e))) ∧ Off3 I H2.objs.size s₂.heap.objs.size (news ++ (ex ++ e)) ∧ AllNe I2 (news ++ (ex ++ e)) ∧ GAll R (yos ++ [yo]) (ex ++ e) := by
          intro yo h₄ e F₄ N₄ offe offe2 hR
          have N₄' : News h₀ L h₄ ((I, oI) :: (I2, oI2) :: (H2.objs.size, oC) :: (s₂.heap.objs.size, lst (yos.filterMap id)) :: (news ++ (ex ++ e))) := fun p hp => by
            rcases List.mem_cons.mp hp with rfl | hp
            · exact N₄ _ (List.mem_append_right _ (.head _))
            rcases List.mem_cons.mp hp with rfl | hp
            · exact N₄ _ (List.mem_append_right _ (.tail _ (.head _)))
            rcases List.mem_cons.mp hp with rfl | hp
            · exact N₄ _ (List.mem_append_right _ (.tail _ (.tail _ (.head _))))
            rcases List.mem_cons.mp hp with rfl | hp
            · exact N₄ _ (List.mem_append_right _ (.tail _ (.tail _ (.tail _ (.head _)))))
            rw [← List.append_assoc] at hp
            rcases List.mem_append.mp hp with hp | hp
            · exact N₄ _ (List.mem_append_right _ (.tail _ (.tail _ (.tail _ (.tail _ hp)))))
            · exact N₄ _ (List.mem_append_left _ hp)
          refine ⟨hSt _ _ _ _ _ _ hst₃ heI heI2 (N₄' _ (.head _)).1 (N₄' _ (.tail _ (.head _))).1 F₄.keep N₄' fun p hp => .tail _ (.tail _ (.tail _ (.tail _ (List.mem_append_left _ hp)))), N₄', Off3.of fun p hp => ?_, allNe_of fun p hp => ?_, fun j yo' ej => ?_⟩
          · rw [← List.append_assoc] at hp
            rcases List.mem_append.mp hp with hp | hp
            · exact off3 p hp
            · exact offe.mem p hp
          · rw [← List.append_assoc] at hp
            rcases List.mem_append.mp hp with hp | hp
            · exact allNe_mem offi' p hp
            · exact allNe_mem offe2 p hp
          · rcases Nat.lt_or_ge j yos.length with hj | hj
            · rw [List.getElem?_append_left hj] at ej
              obtain ⟨e', r1, r2⟩ := hG j yo' ej
              exact ⟨e', r1, fun p hp => List.mem_append_left _ (r2 p hp)⟩
            · rw [List.getElem?_append_right hj] at ej
              have hj0 : j - yos.length = 0 := by
                rcases Nat.eq_zero_or_pos (j - yos.length) with q | q
                · exact q
                · rw [List.getElem?_eq_none (by simp; omega)] at ej; cases ej
              rw [hj0] at ej
              simp only [List.getElem?_cons_zero, Option.some.injEq] at ej
              subst ej
              have : j = i := by omega
              subst this
              exact ⟨e, hR, fun p hp => List.mem_append_right _ hp⟩
        refine wpAny_mono (elem i I oI I2 oI2 H2.objs.size oC s₂.heap.objs.size _ m₂ ex { s₂ with heap := h₃, toks := tk₃ } _ hlt hB hoC F₃ N₃ (Off3.of fun p hp => off3 p (List.mem_append_left _ hp)) (allNe_of fun p hp => allNe_mem offi' p (List.mem_append_left _ hp)) ⟨hCI, hDI, Ne.symm hDC⟩) (fun ok s₃ hok => ?_) fun _ _ e => e
        cases ok with
        | false =>
          rw [if_neg Bool.false_ne_true] at hok ⊢
          refine letP ?_
          intro GG
          obtain ⟨h₄, tk₄, e, rfl, x2, N₄, offe, offe2, hR⟩ := hok
          obtain ⟨x1, x3, x4, x6, x5⟩ := fin none h₄ e x2 N₄ offe offe2 hR
          refine ⟨n + 1 - (i + 1), by omega, h₄, tk₄, i + 1, yos ++ [none], _, ex ++ e, rfl, hlt, rfl, by rw [List.length_append, List.length_singleton, hyl], x1, x2, hoC.ns (x3 _ (.tail _ (.tail _ (.head _)))).1, fun p hp => ?_, x4, x6, x5⟩
          have e1 : (yos ++ [none]).filterMap id = yos.filterMap id := by simp
          rw [e1] at hp
          exact x3 p (.tail _ (.tail _ (.tail _ hp)))
        | true =>
          rw [if_pos rfl] at hok ⊢
          refine wpAny_mono hok (fun y s₄ hy => ?_) fun _ _ e => e
          refine letP ?_
          intro GG
          obtain ⟨h₄, tk₄, e, rfl, x2, N₄, offe, offe2, hR⟩ := hy
          obtain ⟨x1, x3, x4, x6, x5⟩ := fin (some y) h₄ e x2 N₄ offe offe2 hR
          have zD := (x3 _ (.tail _ (.tail _ (.tail _ (.head _))))).1
          have hlen : (yos.filterMap id).length ≤ n := Nat.le_trans (List.length_filterMap_le _ _) (by omega)
          refine append_at (hsz := by show (yos.filterMap id).toArray.size ≤ sizeLine; rw [List.size_toArray]; exact Nat.le_trans hlen hsz) zD fun h₅ hs₅ hD₅ => ?_
          have off4 := x4.mem
          refine ⟨n + 1 - (i + 1), by omega, h₅, tk₄, i + 1, yos ++ [some y], _, ex ++ e, rfl, hlt, rfl, by rw [List.length_append, List.length_singleton, hyl], W.frame _ _ _ x1 fun b hb o eb => hs₅.extBut b o (fun q => hDf (q ▸ hb)) eb, x2.change hs₅ hDL hD₀,
            (hoC.ns (x3 _ (.tail _ (.tail _ (.head _)))).1).sameBut hs₅ (Ne.symm hDC), fun p hp => ?_, x4, x6, x5⟩
          have e1 : (yos ++ [some y]).filterMap id = yos.filterMap id ++ [y] := by simp
          rw [e1] at hp
          rcases List.mem_cons.mp hp with rfl | hp
          · exact ⟨hD₅.trans (congrArg some (lst_snoc _ y)), hDL, hD₀⟩
          · have z := x3 p (.tail _ (.tail _ (.tail _ (.tail _ hp))))
            exact ⟨hs₅.extBut _ _ (off4 p hp).2.2 z.1, z.2⟩
      · obtain rfl : i = n := Nat.le_antisymm hi (Nat.not_lt.mp hlt)
        refine W.done _ _ _ hst' fun h₂ tk₂ hk₂ => ?_
        have nw : ∀ b, b ≠ I → b ≠ I2 → b ∉ [I, I2] := fun b h1 h2 hm => by
          rcases List.mem_cons.mp hm with q | hm
          · exact h1 q
          · exact h2 (List.mem_singleton.mp hm)
        have kk : ∀ b o, b ≠ I → b ≠ I2 → h'.get? b = some o → h₂.get? b = some o := fun b o h1 h2 e => hk₂ b o (nw b h1 h2) e
        exact hRR _ _ h₂ tk₂ _ yos ex ⟨F'.ns.at' fun o e => kk L o hIL hIL2 e, fun b o e => kk b o (fun q => by rw [q, hI₀] at e; cases e) (fun q => by rw [q, hI₀2] at e; cases e) (F'.keep b o e), F'.above⟩ (fun p hp => by
          refine ⟨kk _ _ ?_ ?_ (N' p hp).1, (N' p hp).2⟩
          · rcases List.mem_cons.mp hp with rfl | hp
            · exact Ne.symm hDI
            · exact (off3 p hp).1
          · rcases List.mem_cons.mp hp with rfl | hp
            · exact Ne.symm hDI2
            · exact allNe_mem offi' p hp) off'.one (hn'.at' fun o e => kk _ o (Ne.symm hCI) (Ne.symm hCI2) e) hC₀ hD₀ hCL hDL (Ne.symm hDC) (fun p hp => (off3 p hp).2.1) hyl hG
    · rcases List.mem_cons.mp hp with rfl | hp
      · exact ⟨hacc, hDL, hD₀⟩
      · rw [List.append_nil] at hp; exact ⟨old _ _ (N p hp).1, (N p hp).2⟩
  exact codeAny_compStart_list (loop _ rfl) (W.self 0 _ _ _ hst₁ (loop _ rfl))
end
end
end
section
open PySem PySem.W PyProof.Rows PySem.Calls PySem.Spec
open PyProof.Rows.LCg
set_option Elab.async false
set_option maxRecDepth 100000
set_option maxHeartbeats 1000000
section
theorem ints_ofP {P : Int → Prop} {yos : List (Option Value)} (h : ∀ (j : Nat) (yo : Option Value), yos[j]? = some yo → ∃ q t, P q ∧ yo = some (.int q t)) : ∃ qs, IntsAre (yos.filterMap id) qs ∧ qs.length = yos.length ∧ ∀ q ∈ qs, P q := by
  induction yos with
  | nil => exact ⟨[], .nil, rfl, fun q hq => by cases hq⟩
  | cons yo r ih =>
    obtain ⟨q, t, hP, rfl⟩ := h 0 yo rfl
    obtain ⟨qs, h1, h2, h3⟩ := ih fun j yo hj => h (j + 1) yo (by simpa using hj)
    refine ⟨q :: qs, .cons q t h1, by simp [h2], fun x hx => ?_⟩
    rcases List.mem_cons.mp hx with rfl | hx
    · exact hP
    · exact h3 x hx
section
variable {prog : Program} {w : World} {A : Around} {E : Value → Shared → Prop} {s : Shared} {h₀ : Heap} {L : Addr} {m : Str → Option Value} {env : Env} {news : List (Addr × Obj)}
/-- an enumerate just made -/
structure EnumAt (h₀ : Heap) (L : Addr) (news : List (Addr × Obj)) (h : Heap) (e it l : Addr) : Prop where
  en : IsEnum h e it 0 .none
  li : h.IsListIter it l 0
  ne : e ≠ it
  le : L ≠ e
  li' : L ≠ it
  e0 : h₀.get? e = none
  i0 : h₀.get? it = none
  offe : AllNe e news
  offi : AllNe it news
  lte : e < h.objs.size
  lti : it < h.objs.size
theorem enum_my {l : Addr} {items : Array Value} {Q : Value → Shared → Prop} (F : Fr h₀ L s.heap m) (N : News h₀ L s.heap news) (hl : s.heap.IsList l items)
    (h : ∀ e it h', Fr h₀ L h' m → News h₀ L h' news → EnumAt h₀ L news h' e it l → Q (.ref e) { s with heap := h' }) :
    wpAny (model prog w) A (call (.type "enumerate") [.ref l]) Q E s := by
  refine call_enumerate_list hl fun h' hE hI hsz hk => ?_
  have fresh : ∀ a, s.heap.objs.size ≤ a → s.heap.get? a = none := fun a ha => by
    cases e : s.heap.get? a with
    | none => rfl
    | some o' => exact absurd (Heap.lt_size e) (Nat.not_lt.mpr ha)
  have fresh₀ : ∀ a, s.heap.objs.size ≤ a → h₀.get? a = none := fun a ha => by
    cases e : h₀.get? a with
    | none => rfl
    | some o' => have := F.keep a o' e; rw [fresh a ha] at this; cases this
  have hLlt : L < s.heap.objs.size := F.ns.lt
  refine h _ _ h' (F.keeps hk) (N.grown hk) ⟨hE, hI, Nat.succ_ne_self _, Nat.ne_of_lt (Nat.lt_succ_of_lt hLlt), Nat.ne_of_lt hLlt, fresh₀ _ (Nat.le_succ _), fresh₀ _ (Nat.le_refl _),
    allNe_of fun p hp => Nat.ne_of_lt (Nat.lt_succ_of_lt (Heap.lt_size (N p hp).1)), allNe_of fun p hp => Nat.ne_of_lt (Heap.lt_size (N p hp).1), by rw [hsz]; exact Nat.lt_succ_self _, by rw [hsz]; exact Nat.lt_succ_of_lt (Nat.lt_succ_self _)⟩
theorem Assign_enum {elt iter : Expr} {xk xs : Str} {pk ps tp : Pos} {tk0 : Nat} {y : Str} {py : Pos} {scope : Scope} {cl : List (Str × Addr)} {pos spos : Pos} {Q : Flow → Shared → Prop} (_F₀ : Fr h₀ L s.heap m) (hLe : env.locals = L)
    (hsw : swapsWith (.ListComp elt [⟨.Tuple [.Name xk pk, .Name xs ps] tk0 tp, iter, [], 0⟩] scope pos) (some (.Name y py)) spos.line env = pure true)
    (hclos : closureFor scope env = pure cl) (hcell : ∀ z ∈ scope.names, z.2 ≠ .cell) (hkind : scope.kind = .function)
    (hnames : ∀ z ∈ scope.names, z.2 = .local → scope.names.lookup z.1 = some .local)
    (hy : env.kindOf y = some .local) (hp : (env.scope.kind == .class || (env.scope.kind == .module && env.locals != env.globals)) = false)
    (hxk : scope.names.lookup xk = some .local) (hxs : scope.names.lookup xs = some .local) (hxx : xk ≠ xs) (hh : A.handled = none)
    (h : wpAny (model prog w) A (eval iter env) (fun xv s₁ => ∃ m₁ e it l vs ns news, ∃ P : Int → Prop, xv = .ref e ∧ Fr h₀ L s₁.heap m₁ ∧ News h₀ L s₁.heap news ∧ EnumAt h₀ L news s₁.heap e it l ∧ SrcAt h₀ l (List.toArray vs) news ∧ IntsAre vs ns ∧ vs.length ≤ sizeLine ∧
      (∀ (i : Nat) (n : Int) (t t2 : Tok) I oI I2 oI2 C oC D ys m₂ ex (s' : Shared) (E' : Value → Shared → Prop), ns[i]? = some n → m₂ xk = some (.int i t) → m₂ xs = some (.int n t2) → NsObj oC m₂ → Fr h₀ L s'.heap m₁ → News h₀ L s'.heap ((I, oI) :: (I2, oI2) :: (C, oC) :: (D, lst ys) :: (news ++ ex)) → Off3 I C D news → AllNe I2 news → ((@Ne Nat I C) ∧ (@Ne Nat I D) ∧ (@Ne Nat C D)) →
        wpAny (model prog w) A (eval elt (compEnvC scope cl C env)) (fun y s'' => ∃ q t', y = .int q t' ∧ P q ∧ GEnd2 h₀ L m₁ ((I, oI) :: (I2, oI2) :: (C, oC) :: (D, lst ys) :: (news ++ ex)) I I2 C D (fun _ _ => True) none s' s'') E' s') ∧
      (∀ D h tk ys e qs, Fr h₀ L h (fun z => if z = y then some (.ref D) else m₁ z) → News h₀ L h ((D, lstObj ys e) :: news) → AllNe D news → IntsAre ys qs → qs.length = ns.length → (∀ q ∈ qs, P q) → Q .next { s₁ with heap := h, toks := tk })) E s)
    (hs : ∀ x, foldedSetIterable iter env x = pure x := by intro _; rfl) :
    wpAny (model prog w) A (exec (.Assign [.Name y py] (.ListComp elt [⟨.Tuple [.Name xk pk, .Name xs ps] tk0 tp, iter, [], 0⟩] scope pos) spos) env) Q E s := by
  subst hLe
  rw [exec_Assign_Name_used _ _ _ _ hsw]
  refine wpAny_bind (wpAny_standAt (wpAny_bind ?_))
  show wpAny _ A (do let _ ← comprehension (.ListComp elt [⟨.Tuple [.Name xk pk, .Name xs ps] tk0 tp, iter, [], 0⟩] scope pos) scope env _ (newList []) false (eval iter env) (some (assign (.Name y py) env))) _ _ s
  refine wpAny_bind (wpAny_mono (wpAny_comprehension_free (use := some (assign (.Name y py) env)) (Q := fun _ s' => Q .next s') rfl hs hclos hkind hnames
    (wpAny_mono h (fun xv s₁ h₁ => ?_) fun _ _ e => e)) (fun _ s' hq => wpAny_pure (wpAny_pure hq)) fun _ _ e => e)
  refine letP ?_
  intro GG
  obtain ⟨m₁, e, it, l, vs, ns, news, P, rfl, F, N, H, S, hI, hsz, elem, fin⟩ := h₁
  refine wpAny_pyIter_enum H.en ?_
  have hsz' : vs.toArray.size = vs.length := List.size_toArray ..
  have hl := S.list F.keep N
  have hlne : l ≠ e := fun q => by
    obtain ⟨o, eo, hc, _⟩ := hl
    rw [q, H.en] at eo
    rw [← Option.some.inj eo] at hc
    exact absurd (show Value.type "enumerate" = Value.type "list" from hc) (by decide)
  have hlni : l ≠ it := fun q => by
    obtain ⟨o, eo, hc, _⟩ := hl
    obtain ⟨o2, eo2, hc2, _⟩ := H.li
    rw [q, eo2] at eo; cases eo; rw [hc2] at hc
    exact absurd hc (by decide)
  have hlt : l < s₁.heap.objs.size := by obtain ⟨_, e1, _⟩ := hl; exact Heap.lt_size e1
  refine block_T (elts := [.Name xk pk, .Name xs ps]) (h₀ := h₀) (m := m₁) (I := e) (I2 := it) (news := news) (fun i m₂ => ∃ n t t2, ns[i]? = some n ∧ m₂ xk = some (.int i t) ∧ m₂ xs = some (.int n t2)) (fun i yo _ => ∃ q t, P q ∧ yo = some (.int q t))
    (WalksT.enumerate hh e it l H.ne hlne hlni vs.toArray) (by rw [hsz']; exact hsz) ?_ hh H.ne ?_ hcell hkind ⟨⟨_, H.en⟩, H.li, hl⟩ ?_ F N H.le H.e0 (fun p hp => allNe_mem H.offe p hp) H.li' H.i0 H.offi ?_ ?_ ?_
  · rintro i h ⟨⟨old, he⟩, ⟨o, ho, _⟩, _⟩; exact ⟨_, o, he, ho⟩
  · rintro i h h' o o2 nw ⟨⟨old, he⟩, ⟨oi, hoi, hci⟩, hL⟩ e1 e2 e1' e2' kb N' sub
    have he' : h.get? e = some _ := he
    rw [e1] at he'; rw [e2] at hoi
    have e3 := Option.some.inj he'
    cases hoi
    exact ⟨⟨old, by show h'.get? e = some _; rw [e1', e3]⟩, ⟨o2, e2', hci⟩, SrcAt.list (S.imp id fun ⟨o, hm, r⟩ => ⟨o, sub _ hm, r⟩) kb N'⟩
  · intro b hb
    rcases List.mem_cons.mp hb with rfl | hb
    · exact H.lte
    rcases List.mem_cons.mp hb with rfl | hb
    · exact H.lti
    · rw [List.mem_singleton.mp hb]; exact hlt
  · rintro i vals C m' s' E' Q' hi ⟨t, x, hx, rfl⟩ hn k T hT
    have hi' : i < ns.length := by rw [hsz', hI.length] at hi; exact hi
    obtain ⟨t2, hv2⟩ := hI.get i _ (List.getElem?_eq_getElem hi')
    have : x = .int ns[i] t2 := by
      have h1 : vs[i]? = some x := by simpa using hx
      rw [h1] at hv2; exact Option.some.inj hv2
    subst this
    refine assign_seq hh hT rfl rfl fun h₁ hk₁ => ?_
    refine assignInOrder_cons (wpAny_assign_Name (wpAny_storeName_local (lookup_relabel_local hxk) (hn.at' fun o e => hk₁ _ o e) (fun h₂ hn₂ hs₂ => ?_) (by simp [compEnvC, relabel, hkind])))
    refine assignInOrder_cons (wpAny_assign_Name (wpAny_storeName_local (lookup_relabel_local hxs) hn₂ (fun h₃ hn₃ hs₃ => ?_) (by simp [compEnvC, relabel, hkind])))
    refine assignInOrder_nil ?_
    exact k h₃ _ _ (fun b o hb e => hs₃.extBut b o hb (hs₂.extBut b o hb (hk₁ b o e))) hn₃ ⟨ns[i], t, t2, List.getElem?_eq_getElem hi', by simp [hxx], by simp⟩
  · intro i I oI I2 oI2 C oC D ys m₂ ex s' E' hi hB hC F' N' off off2 ne
    refine letP ?_
    intro GG
    obtain ⟨n, t, t2, hn, hk, hx⟩ := hB
    refine wpAny_tests_nil ?_
    rw [if_pos rfl]
    refine wpAny_mono (elem i n t t2 I oI I2 oI2 C oC D ys m₂ ex s' E' hn hk hx hC F' N' off off2 ne) (fun y s'' h => ?_) fun _ _ e => e
    obtain ⟨q, t', rfl, hP, h', tk, e, rfl, x1, x2, x3, x4, -⟩ := h
    exact ⟨h', tk, e, rfl, x1, x2, x3, x4, q, t', hP, rfl⟩
  · intro D C h tk m' yos ex F' N' o1 hn hC₀ hD₀ hCL hDL hCD offC hyl hG
    obtain ⟨qs, hI', hql, hqP⟩ := ints_ofP (P := P) fun j yo hj => by obtain ⟨e, h1, -⟩ := hG j yo hj; exact h1
    show wpAny _ A (assign (.Name y py) env (.ref D)) _ _ _
    refine wpAny_assign_Name (wpAny_storeName_local hy F'.ns (fun h₂ hn₂ hs₂ => ?_) hp)
    have hL₀ : h₀.get? env.locals = none := Heap.get?_none_of_le F'.above
    refine ⟨m', hn.sameBut hs₂ hCL, fun h'' hs'' => fin D h'' _ (yos.filterMap id) (yos.filterMap id).length qs ⟨hn₂.sameBut hs'' (Ne.symm hCL), fun b o e => ?_, F'.above⟩ (fun p hp => ?_) (allNe_left (off1_ne o1)) hI' (by rw [hql, hyl, hsz', hI.length]) hqP⟩
    · exact hs''.extBut _ _ (fun q => by rw [q, hC₀] at e; cases e) (hs₂.extBut _ _ (fun q => by rw [q, hL₀] at e; cases e) (F'.keep b o e))
    · have hp' : p ∈ (D, lst (yos.filterMap id)) :: (news ++ ex) := by
        rcases List.mem_cons.mp hp with rfl | hp
        · exact .head _
        · exact .tail _ (List.mem_append_left _ hp)
      have hC' : p.1 ≠ C := by
        rcases List.mem_cons.mp hp' with rfl | hp'
        · exact Ne.symm hCD
        · exact offC p hp'
      exact ⟨hs''.extBut _ _ hC' (hs₂.extBut _ _ (N' p hp').2.1 (N' p hp').1), (N' p hp').2⟩
end
end
end
section
/-! the two functions of colours, as functions of the model's floats -/
open PySem PySem.W PyProof.Rows PySem.Calls PySem.Spec
section
noncomputable def divF (a b : Int) : UInt64 := Float64.ofFrac (decide (a < 0) != decide (b < 0)) a.natAbs b.natAbs
noncomputable def hRaw (r g b : Int) : UInt64 :=
  if r = max3 r g b then Float64.sub (divF (max3 r g b - b) (max3 r g b - min3 r g b)) (divF (max3 r g b - g) (max3 r g b - min3 r g b))
  else if g = max3 r g b then Float64.sub (Float64.add 4611686018427387904 (divF (max3 r g b - r) (max3 r g b - min3 r g b))) (divF (max3 r g b - b) (max3 r g b - min3 r g b))
  else Float64.sub (Float64.add 4616189618054758400 (divF (max3 r g b - g) (max3 r g b - min3 r g b))) (divF (max3 r g b - r) (max3 r g b - min3 r g b))
noncomputable def hueF (r g b : Int) : UInt64 := (Float64.divmod (Float64.div (hRaw r g b) 4618441417868443648) 4607182418800017408).2
noncomputable def satF (r g b : Int) : UInt64 := divF (max3 r g b - min3 r g b) (max3 r g b)
noncomputable abbrev tup3 (a b c : Value) : Obj := { cls := .type "tuple", data := .seq #[a, b, c] }
end
section
inductive Num where
  | i (z : Int)
  | f (x : UInt64)
noncomputable def numV : Num → Tok → Value
  | .i z, t => .int z t
  | .f x, t => .float x t
noncomputable def iF (a : UInt64) : Int := Flt.toInt Float64.truncOf (Float64.mul a 4618441417868443648)
noncomputable def fF (a : UInt64) : UInt64 := Float64.sub (Float64.mul a 4618441417868443648) (Float64.ofInt (iF a))
noncomputable def pF (b : UInt64) (v : Int) : UInt64 := Float64.mul (Float64.ofInt v) (Float64.sub 4607182418800017408 b)
noncomputable def qF (a b : UInt64) (v : Int) : UInt64 := Float64.mul (Float64.ofInt v) (Float64.sub 4607182418800017408 (Float64.mul b (fF a)))
noncomputable def tF (a b : UInt64) (v : Int) : UInt64 := Float64.mul (Float64.ofInt v) (Float64.sub 4607182418800017408 (Float64.mul b (Float64.sub 4607182418800017408 (fF a))))
noncomputable def h2r (a b : UInt64) (v : Int) : Num × Num × Num :=
  if (iF a).fmod 6 = 0 then (.i v, .f (tF a b v), .f (pF b v))
  else if (iF a).fmod 6 = 1 then (.f (qF a b v), .i v, .f (pF b v))
  else if (iF a).fmod 6 = 2 then (.f (pF b v), .i v, .f (tF a b v))
  else if (iF a).fmod 6 = 3 then (.f (pF b v), .f (qF a b v), .i v)
  else if (iF a).fmod 6 = 4 then (.f (tF a b v), .f (pF b v), .i v)
  else (.i v, .f (pF b v), .f (qF a b v))
end
end
section
theorem rgb_call (w : World) (loose : List Str) (mean : ExcName → Option Value) (mg mb : Str → Option Value) (dp un : Nat) (fr : Option (List Env)) (gd : Option (List Code)) (s : Shared)
    (Q E : Value → Shared → Prop) (X : (Mine.hk.heap_1 w.params).In s.heap) (T : Top topProg loose mean mg mb s.heap) (hd : dp < 900)
    (r g b : Int) (tr tg tb : Tok) (hr : 0 ≤ r ∧ r < 1048576) (hg : 0 ≤ g ∧ g < 1048576) (hb : 0 ≤ b ∧ b < 1048576) (hne : min3 r g b < max3 r g b) (hm0 : 0 ≤ min3 r g b) (hm1 : max3 r g b < 1048576)
    (hret : ∀ D h' tk' t1 t2 t3, (∀ b o, s.heap.get? b = some o → h'.get? b = some o) → s.heap.get? D = none → h'.get? D = some (tup3 (.float (hueF r g b) t1) (.float (satF r g b) t2) (.int (max3 r g b) t3)) → Q (.ref D) { s with heap := h', toks := tk' }) :
    wpAny (model PySem.Challenge.rw_rl0058_01.row.prog w) (AA dp fr gd un) (call (.ref 21) [.int r tr, .int g tg, .int b tb]) Q E s := by
  k_with_none
  k_with "my fold" => ((try (with_reducible refine GTurn.letG ?_; intro gk)); (try (show wpAny _ _ _ _ _ _; k_fold)))
  k_with "my steps" => (walk_at "my fold"; repeat' (first | (k_unfold; (try dsimp only)) | (k_end; wrow_close) | walk1 | (dsimp only; walk1) | (leave1; walk_say "STEP leave1"; try dsimp only) | fail "no step"))
  k_with "my pick" => first | with_reducible assumption | with_reducible exact And.left (by assumption) | with_reducible exact And.left (And.right (by assumption)) | with_reducible exact And.left (And.right (And.right (by assumption))) | with_reducible exact And.left (And.right (And.right (And.right (by assumption)))) | with_reducible exact And.left (And.right (And.right (And.right (And.right (by assumption))))) | with_reducible exact And.left (And.right (And.right (And.right (And.right (And.right (by assumption)))))) | with_reducible exact And.left (And.right (And.right (And.right (And.right (And.right (And.right (by assumption))))))) | with_reducible exact And.left (And.right (And.right (And.right (And.right (And.right (And.right (And.right (by assumption)))))))) | with_reducible exact And.left (And.right (And.right (And.right (And.right (And.right (And.right (And.right (And.right (by assumption))))))))) | with_reducible exact And.left (And.right (And.right (And.right (And.right (And.right (And.right (And.right (And.right (And.right (by assumption)))))))))) | with_reducible exact And.left (And.right (And.right (And.right (And.right (And.right (And.right (And.right (And.right (And.right (And.right (by assumption)))))))))))
  k_with "my ne" => first | exact Nat.ne_of_gt (by walk_at "my pick") | exact Nat.ne_of_lt (by walk_at "my pick") | walk_at "my pick" | exact Ne.symm (by walk_at "my pick")
  k_with "my kn" => (first | walk_at "my ne" | omega)
  k_with "my kne" => (refine neN ?_; (try dsimp only); walk_at "my kn")
  k_with "eval Name" => (k_here; k_dflt (refine' nameX_L ?Fw6 ?vw6 ?_ ?aw6 ?bw6; (case Fw6 => k_asm); (case aw6 => rfl); (case bw6 => rfl); (case vw6 => exact Eq.refl (some _)); k_whole))
  k_with "execs cons" => ((show wpAny _ _ _ _ _ _); k_fold)
  k_with "call builtin:max" => ((with_reducible show wpAny _ _ (call (Value.builtin "max") [Value.int _ _, Value.int _ _, Value.int _ _]) _ _ _); (with_unfolding_all refine' max3_N ?k0w8 ?k1w8 ?k2w8 ?_; (case k0w8 => rfl); (case k1w8 => k_asm); (case k2w8 => k_asm); k_whole); walk_at "my in5"; (try k_sweep))
  k_with "call builtin:min" => ((with_reducible show wpAny _ _ (call (Value.builtin "min") [Value.int _ _, Value.int _ _, Value.int _ _]) _ _ _); (with_unfolding_all refine' min3_N ?k0w9 ?k1w9 ?k2w9 ?_; (case k0w9 => rfl); (case k1w9 => k_asm); (case k2w9 => k_asm); k_whole); walk_at "my in5"; (try k_sweep))
  k_with "call builtin:list.append" => ((show wpAny _ _ (call (Value.builtin "list.append") [Value.ref _, _]) _ _ _); k_dflt (refine' append_K ?k1w10 ?k2w10 ?k3w10 ?_ ?zw10; (case k1w10 => k_asm); (case k2w10 => k_asm); (case k3w10 => k_upd); (case zw10 => size_fits); k_whole); walk_at "my in3"; (try k_sweep))
  k_with "my enter" => (k_dflt (refine' enter ?Xw11 ?Tw11 ?hdw11 ?how11 ?hcdw11 ?hbw11 ?hlw11 ?hcw11 ?c1w11 ?c2w11 ?c3w11 ?_; (case Xw11 => assumption); (case Tw11 => assumption); (case hdw11 => (show _ < 1000; omega)); (case how11 => k_is); (case hcdw11 => k_is); (case hbw11 => exact BindsTo.of_eq rfl); (case hlw11 => exact locs rfl); (case hcw11 => decide); (case c1w11 => rfl); (case c2w11 => rfl); (case c3w11 => rfl); k_whole); walk_at "my inL"; (try dsimp only); (try k_fold))
  k_with "my enterC" => (k_dflt (refine' enterC ?Xw12 ?Tw12 ?hdw12 ?how12 ?hcdw12 ?hbw12 ?hlw12 ?hnw12 ?c1w12 ?c2w12 ?c3w12 ?_; (case Xw12 => assumption); (case Tw12 => assumption); (case hdw12 => (show _ < 1000; omega)); (case how12 => k_is); (case hcdw12 => k_is); (case hbw12 => exact BindsTo.of_eq rfl); (case hlw12 => rfl); (case hnw12 => decide +kernel); (case c1w12 => rfl); (case c2w12 => rfl); (case c3w12 => rfl); k_whole); walk_at "my inC"; (try dsimp only); (try k_fold))
  k_with "my end" => ((try dsimp only); (try k_unfold); (try dsimp only))
  k_with "call builtin:list.extend" => ((show wpAny _ _ (call (Value.builtin "list.extend") [Value.ref _, Value.ref _]) _ _ _); k_dflt (refine' extend_my ?k1w14 ?k2w14 ?k3w14 ?k4w14 ?zw14 ?_; (case k1w14 => k_asm); (case k2w14 => k_asm); (case k3w14 => k_updF); (case k4w14 => k_mem); (case zw14 => (simp only [PySem.sizeLine_eq, List.length_append, List.length_cons, List.length_nil]; omega)); k_whole); walk_at "my inX"; (try k_sweep))
  k_with "my sub" => repeat (first | exact List.forall_mem_nil _ | (refine List.forall_mem_cons.mpr ⟨by k_mem, ?_⟩))
  w_on
  revert X; k_fill; intro X
  walk_at "my enter"
  walk_at "my steps"
  all_goals (walk_at "my end")
  all_goals (walk_at "my end")
  · exfalso; omega
  · rename r = max3 r g b => h1
    have e : hueF r g b = (Float64.divmod (Float64.div (Float64.sub (divF (max3 r g b - b) (max3 r g b - min3 r g b)) (divF (max3 r g b - g) (max3 r g b - min3 r g b))) 4618441417868443648) 4607182418800017408).2 := by
      unfold hueF hRaw; rw [if_pos h1]
    rw [e] at hret
    exact hret _ _ _ _ _ _ (Fr.keep (by assumption)) (News.fresh (by assumption) (List.Mem.head _)) (News.get (by assumption) (List.Mem.head _))
  · rename r ≠ max3 r g b => h1
    rename g = max3 r g b => h2
    have e : hueF r g b = (Float64.divmod (Float64.div (Float64.sub (Float64.add 4611686018427387904 (divF (max3 r g b - r) (max3 r g b - min3 r g b))) (divF (max3 r g b - b) (max3 r g b - min3 r g b))) 4618441417868443648) 4607182418800017408).2 := by
      unfold hueF hRaw; rw [if_neg h1, if_pos h2]
    rw [e] at hret
    exact hret _ _ _ _ _ _ (Fr.keep (by assumption)) (News.fresh (by assumption) (List.Mem.head _)) (News.get (by assumption) (List.Mem.head _))
  · rename r ≠ max3 r g b => h1
    rename g ≠ max3 r g b => h2
    have e : hueF r g b = (Float64.divmod (Float64.div (Float64.sub (Float64.add 4616189618054758400 (divF (max3 r g b - g) (max3 r g b - min3 r g b))) (divF (max3 r g b - r) (max3 r g b - min3 r g b))) 4618441417868443648) 4607182418800017408).2 := by
      unfold hueF hRaw; rw [if_neg h1, if_neg h2]
    rw [e] at hret
    exact hret _ _ _ _ _ _ (Fr.keep (by assumption)) (News.fresh (by assumption) (List.Mem.head _)) (News.get (by assumption) (List.Mem.head _))
end
section
theorem h2r_call (w : World) (loose : List Str) (mean : ExcName → Option Value) (mg mb : Str → Option Value) (dp un : Nat) (fr : Option (List Env)) (gd : Option (List Code)) (s : Shared)
    (Q E : Value → Shared → Prop) (X : (Mine.hk.heap_1 w.params).In s.heap) (T : Top topProg loose mean mg mb s.heap) (hd : dp < 900)
    (a b : UInt64) (v : Int) (ta tb tv : Tok) (hv : 0 ≤ v ∧ v < 1048576) (hfa : Float64.isFinite a = true) (hfb : Float64.isFinite b = true) (hf6 : Float64.isFinite (Float64.mul a 4618441417868443648) = true) (hb0 : (Float64.cmp b 0 == some .eq) = false) (hi : (iF a).natAbs < 1000)
    (hret : ∀ D h' tk' t1 t2 t3, (∀ b o, s.heap.get? b = some o → h'.get? b = some o) → s.heap.get? D = none → h'.get? D = some (tup3 (numV (h2r a b v).1 t1) (numV (h2r a b v).2.1 t2) (numV (h2r a b v).2.2 t3)) → Q (.ref D) { s with heap := h', toks := tk' }) :
    wpAny (model PySem.Challenge.rw_rl0058_01.row.prog w) (AA dp fr gd un) (call (.ref 28) [.float a ta, .float b tb, .int v tv]) Q E s := by
  k_with_none
  k_with "my fold" => ((try (with_reducible refine GTurn.letG ?_; intro gk)); (try (show wpAny _ _ _ _ _ _; k_fold)))
  k_with "my steps" => (walk_at "my fold"; repeat' (first | (k_unfold; (try dsimp only)) | (k_end; wrow_close) | walk1 | (dsimp only; walk1) | (leave1; walk_say "STEP leave1"; try dsimp only) | fail "no step"))
  k_with "my pick" => first | with_reducible assumption | with_reducible exact And.left (by assumption) | with_reducible exact And.left (And.right (by assumption)) | with_reducible exact And.left (And.right (And.right (by assumption))) | with_reducible exact And.left (And.right (And.right (And.right (by assumption)))) | with_reducible exact And.left (And.right (And.right (And.right (And.right (by assumption))))) | with_reducible exact And.left (And.right (And.right (And.right (And.right (And.right (by assumption)))))) | with_reducible exact And.left (And.right (And.right (And.right (And.right (And.right (And.right (by assumption))))))) | with_reducible exact And.left (And.right (And.right (And.right (And.right (And.right (And.right (And.right (by assumption)))))))) | with_reducible exact And.left (And.right (And.right (And.right (And.right (And.right (And.right (And.right (And.right (by assumption))))))))) | with_reducible exact And.left (And.right (And.right (And.right (And.right (And.right (And.right (And.right (And.right (And.right (by assumption)))))))))) | with_reducible exact And.left (And.right (And.right (And.right (And.right (And.right (And.right (And.right (And.right (And.right (And.right (by assumption)))))))))))
  k_with "my ne" => first | exact Nat.ne_of_gt (by walk_at "my pick") | exact Nat.ne_of_lt (by walk_at "my pick") | walk_at "my pick" | exact Ne.symm (by walk_at "my pick")
  k_with "my kn" => (first | walk_at "my ne" | omega)
  k_with "my kne" => (refine neN ?_; (try dsimp only); walk_at "my kn")
  k_with "eval Name" => (k_here; k_dflt (refine' nameX_L ?Fw6 ?vw6 ?_ ?aw6 ?bw6; (case Fw6 => k_asm); (case aw6 => rfl); (case bw6 => rfl); (case vw6 => exact Eq.refl (some _)); k_whole))
  k_with "execs cons" => ((show wpAny _ _ _ _ _ _); k_fold)
  k_with "call builtin:max" => ((with_reducible show wpAny _ _ (call (Value.builtin "max") [Value.int _ _, Value.int _ _, Value.int _ _]) _ _ _); (with_unfolding_all refine' max3_N ?k0w8 ?k1w8 ?k2w8 ?_; (case k0w8 => rfl); (case k1w8 => k_asm); (case k2w8 => k_asm); k_whole); walk_at "my in5"; (try k_sweep))
  k_with "call builtin:min" => ((with_reducible show wpAny _ _ (call (Value.builtin "min") [Value.int _ _, Value.int _ _, Value.int _ _]) _ _ _); (with_unfolding_all refine' min3_N ?k0w9 ?k1w9 ?k2w9 ?_; (case k0w9 => rfl); (case k1w9 => k_asm); (case k2w9 => k_asm); k_whole); walk_at "my in5"; (try k_sweep))
  k_with "call builtin:list.append" => ((show wpAny _ _ (call (Value.builtin "list.append") [Value.ref _, _]) _ _ _); k_dflt (refine' append_K ?k1w10 ?k2w10 ?k3w10 ?_ ?zw10; (case k1w10 => k_asm); (case k2w10 => k_asm); (case k3w10 => k_upd); (case zw10 => size_fits); k_whole); walk_at "my in3"; (try k_sweep))
  k_with "my enter" => (k_dflt (refine' enter ?Xw11 ?Tw11 ?hdw11 ?how11 ?hcdw11 ?hbw11 ?hlw11 ?hcw11 ?c1w11 ?c2w11 ?c3w11 ?_; (case Xw11 => assumption); (case Tw11 => assumption); (case hdw11 => (show _ < 1000; omega)); (case how11 => k_is); (case hcdw11 => k_is); (case hbw11 => exact BindsTo.of_eq rfl); (case hlw11 => exact locs rfl); (case hcw11 => decide); (case c1w11 => rfl); (case c2w11 => rfl); (case c3w11 => rfl); k_whole); walk_at "my inL"; (try dsimp only); (try k_fold))
  k_with "my enterC" => (k_dflt (refine' enterC ?Xw12 ?Tw12 ?hdw12 ?how12 ?hcdw12 ?hbw12 ?hlw12 ?hnw12 ?c1w12 ?c2w12 ?c3w12 ?_; (case Xw12 => assumption); (case Tw12 => assumption); (case hdw12 => (show _ < 1000; omega)); (case how12 => k_is); (case hcdw12 => k_is); (case hbw12 => exact BindsTo.of_eq rfl); (case hlw12 => rfl); (case hnw12 => decide +kernel); (case c1w12 => rfl); (case c2w12 => rfl); (case c3w12 => rfl); k_whole); walk_at "my inC"; (try dsimp only); (try k_fold))
  k_with "my end" => ((try dsimp only); (try k_unfold); (try dsimp only))
  k_with "call builtin:list.extend" => ((show wpAny _ _ (call (Value.builtin "list.extend") [Value.ref _, Value.ref _]) _ _ _); k_dflt (refine' extend_my ?k1w14 ?k2w14 ?k3w14 ?k4w14 ?zw14 ?_; (case k1w14 => k_asm); (case k2w14 => k_asm); (case k3w14 => k_updF); (case k4w14 => k_mem); (case zw14 => (simp only [PySem.sizeLine_eq, List.length_append, List.length_cons, List.length_nil]; omega)); k_whole); walk_at "my inX"; (try k_sweep))
  k_with "my sub" => repeat (first | exact List.forall_mem_nil _ | (refine List.forall_mem_cons.mpr ⟨by k_mem, ?_⟩))
  w_on
  revert X; k_fill; intro X
  walk_at "my enter"
  walk_at "my steps"
  all_goals (walk_at "my end")
  all_goals (walk_at "my end")
  · exfalso
    rename 2 ^ 1024 - 2 ^ 970 ≤ _ => hbig
    have hsm : (1000 : Nat) ≤ 2 ^ 1024 - 2 ^ 970 := by decide +kernel
    exact absurd (Nat.lt_of_lt_of_le hi hsm) (Nat.not_lt.mpr hbig)
  · rename _ = (0 : Int) => h0
    have e : h2r a b v = (.i v, .f (tF a b v), .f (pF b v)) := by
      unfold h2r; rw [if_pos (show (iF a).fmod 6 = 0 from h0)]
    rw [e] at hret
    exact hret _ _ _ _ _ _ (Fr.keep (by assumption)) (News.fresh (by assumption) (List.Mem.head _)) (News.get (by assumption) (List.Mem.head _))
  · rename _ ≠ (0 : Int) => h0
    rename _ = (1 : Int) => h1
    have e : h2r a b v = (.f (qF a b v), .i v, .f (pF b v)) := by
      unfold h2r; rw [if_neg (show ¬ ((iF a).fmod 6 = 0) from h0), if_pos (show (iF a).fmod 6 = 1 from h1)]
    rw [e] at hret
    exact hret _ _ _ _ _ _ (Fr.keep (by assumption)) (News.fresh (by assumption) (List.Mem.head _)) (News.get (by assumption) (List.Mem.head _))
  · rename _ ≠ (0 : Int) => h0
    rename _ ≠ (1 : Int) => h1
    rename _ = (2 : Int) => h2
    have e : h2r a b v = (.f (pF b v), .i v, .f (tF a b v)) := by
      unfold h2r; rw [if_neg (show ¬ ((iF a).fmod 6 = 0) from h0), if_neg (show ¬ ((iF a).fmod 6 = 1) from h1), if_pos (show (iF a).fmod 6 = 2 from h2)]
    rw [e] at hret
    exact hret _ _ _ _ _ _ (Fr.keep (by assumption)) (News.fresh (by assumption) (List.Mem.head _)) (News.get (by assumption) (List.Mem.head _))
  · rename _ ≠ (0 : Int) => h0
    rename _ ≠ (1 : Int) => h1
    rename _ ≠ (2 : Int) => h2
    rename _ = (3 : Int) => h3
    have e : h2r a b v = (.f (pF b v), .f (qF a b v), .i v) := by
      unfold h2r; rw [if_neg (show ¬ ((iF a).fmod 6 = 0) from h0), if_neg (show ¬ ((iF a).fmod 6 = 1) from h1), if_neg (show ¬ ((iF a).fmod 6 = 2) from h2), if_pos (show (iF a).fmod 6 = 3 from h3)]
    rw [e] at hret
    exact hret _ _ _ _ _ _ (Fr.keep (by assumption)) (News.fresh (by assumption) (List.Mem.head _)) (News.get (by assumption) (List.Mem.head _))
  · rename _ ≠ (0 : Int) => h0
    rename _ ≠ (1 : Int) => h1
    rename _ ≠ (2 : Int) => h2
    rename _ ≠ (3 : Int) => h3
    rename _ = (4 : Int) => h4
    have e : h2r a b v = (.f (tF a b v), .f (pF b v), .i v) := by
      unfold h2r; rw [if_neg (show ¬ ((iF a).fmod 6 = 0) from h0), if_neg (show ¬ ((iF a).fmod 6 = 1) from h1), if_neg (show ¬ ((iF a).fmod 6 = 2) from h2), if_neg (show ¬ ((iF a).fmod 6 = 3) from h3), if_pos (show (iF a).fmod 6 = 4 from h4)]
    rw [e] at hret
    exact hret _ _ _ _ _ _ (Fr.keep (by assumption)) (News.fresh (by assumption) (List.Mem.head _)) (News.get (by assumption) (List.Mem.head _))
  · rename _ ≠ (0 : Int) => h0
    rename _ ≠ (1 : Int) => h1
    rename _ ≠ (2 : Int) => h2
    rename _ ≠ (3 : Int) => h3
    rename _ ≠ (4 : Int) => h4
    rename _ = (5 : Int) => h5
    have e : h2r a b v = (.i v, .f (pF b v), .f (qF a b v)) := by
      unfold h2r; rw [if_neg (show ¬ ((iF a).fmod 6 = 0) from h0), if_neg (show ¬ ((iF a).fmod 6 = 1) from h1), if_neg (show ¬ ((iF a).fmod 6 = 2) from h2), if_neg (show ¬ ((iF a).fmod 6 = 3) from h3), if_neg (show ¬ ((iF a).fmod 6 = 4) from h4)]
    rw [e] at hret
    exact hret _ _ _ _ _ _ (Fr.keep (by assumption)) (News.fresh (by assumption) (List.Mem.head _)) (News.get (by assumption) (List.Mem.head _))
  · exfalso
    have g0 := Int.fmod_nonneg_of_pos (iF a) (show (0 : Int) < 6 by decide)
    have g1 := Int.fmod_lt_of_pos (iF a) (show (0 : Int) < 6 by decide)
    unfold iF at g0 g1
    omega
end
section
theorem back_call (w : World) (loose : List Str) (mean : ExcName → Option Value) (mg mb : Str → Option Value) (dp un : Nat) (fr : Option (List Env)) (gd : Option (List Code)) (s : Shared)
    (Q E : Value → Shared → Prop) (X : (Mine.hk.heap_1 w.params).In s.heap) (T : Top topProg loose mean mg mb s.heap) (hd : dp < 900) (hu : un < 900)
    (d : Addr) (vs : List Value) (ns : List Int) (hL : s.heap.IsList d vs.toArray) (hI : IntsAre vs ns) (hn : ns.length = 5) (hq : ∀ q ∈ ns, -4 ≤ q ∧ q ≤ 7)
    (hret : ∀ D h' tk' n rs row, (∀ b o, s.heap.get? b = some o → h'.get? b = some o) → h'.get? D = some (W.listOf (List.toArray rs) n) → IntsAre rs row → Ring row → s.heap.get? D = none → Q (.ref D) { s with heap := h', toks := tk' }) :
    wpAny (model PySem.Challenge.rw_rl0058_01.row.prog w) (AA dp fr gd un) (call (.ref 84) [.ref d]) Q E s := by
  k_with_none
  k_with "my fold" => ((try (with_reducible refine GTurn.letG ?_; intro gk)); (try (show wpAny _ _ _ _ _ _; k_fold)))
  k_with "my steps" => (walk_at "my fold"; repeat' (first | (k_unfold; (try dsimp only)) | (k_end; wrow_close) | walk1 | (dsimp only; walk1) | (leave1; walk_say "STEP leave1"; try dsimp only) | fail "no step"))
  k_with "my pick" => first | with_reducible assumption | with_reducible exact And.left (by assumption) | with_reducible exact And.left (And.right (by assumption)) | with_reducible exact And.left (And.right (And.right (by assumption))) | with_reducible exact And.left (And.right (And.right (And.right (by assumption)))) | with_reducible exact And.left (And.right (And.right (And.right (And.right (by assumption))))) | with_reducible exact And.left (And.right (And.right (And.right (And.right (And.right (by assumption)))))) | with_reducible exact And.left (And.right (And.right (And.right (And.right (And.right (And.right (by assumption))))))) | with_reducible exact And.left (And.right (And.right (And.right (And.right (And.right (And.right (And.right (by assumption)))))))) | with_reducible exact And.left (And.right (And.right (And.right (And.right (And.right (And.right (And.right (And.right (by assumption))))))))) | with_reducible exact And.left (And.right (And.right (And.right (And.right (And.right (And.right (And.right (And.right (And.right (by assumption)))))))))) | with_reducible exact And.left (And.right (And.right (And.right (And.right (And.right (And.right (And.right (And.right (And.right (And.right (by assumption)))))))))))
  k_with "my ne" => first | exact Nat.ne_of_gt (by walk_at "my pick") | exact Nat.ne_of_lt (by walk_at "my pick") | walk_at "my pick" | exact Ne.symm (by walk_at "my pick")
  k_with "my kn" => (first | walk_at "my ne" | omega)
  k_with "my kne" => (refine neN ?_; (try dsimp only); walk_at "my kn")
  k_with "eval Name" => (k_here; k_dflt (refine' nameX_L ?Fw6 ?vw6 ?_ ?aw6 ?bw6; (case Fw6 => k_asm); (case aw6 => rfl); (case bw6 => rfl); (case vw6 => exact Eq.refl (some _)); k_whole))
  k_with "execs cons" => ((show wpAny _ _ _ _ _ _); k_fold)
  k_with "call builtin:max" => ((with_reducible show wpAny _ _ (call (Value.builtin "max") [Value.int _ _, Value.int _ _, Value.int _ _]) _ _ _); (with_unfolding_all refine' max3_N ?k0w8 ?k1w8 ?k2w8 ?_; (case k0w8 => rfl); (case k1w8 => k_asm); (case k2w8 => k_asm); k_whole); walk_at "my in5"; (try k_sweep))
  k_with "call builtin:min" => ((with_reducible show wpAny _ _ (call (Value.builtin "min") [Value.int _ _, Value.int _ _, Value.int _ _]) _ _ _); (with_unfolding_all refine' min3_N ?k0w9 ?k1w9 ?k2w9 ?_; (case k0w9 => rfl); (case k1w9 => k_asm); (case k2w9 => k_asm); k_whole); walk_at "my in5"; (try k_sweep))
  k_with "call builtin:list.append" => ((show wpAny _ _ (call (Value.builtin "list.append") [Value.ref _, _]) _ _ _); k_dflt (refine' append_K ?k1w10 ?k2w10 ?k3w10 ?_ ?zw10; (case k1w10 => k_asm); (case k2w10 => k_asm); (case k3w10 => k_upd); (case zw10 => size_fits); k_whole); walk_at "my in3"; (try k_sweep))
  k_with "my enter" => (k_dflt (refine' enter ?Xw11 ?Tw11 ?hdw11 ?how11 ?hcdw11 ?hbw11 ?hlw11 ?hcw11 ?c1w11 ?c2w11 ?c3w11 ?_; (case Xw11 => assumption); (case Tw11 => assumption); (case hdw11 => (show _ < 1000; omega)); (case how11 => k_is); (case hcdw11 => k_is); (case hbw11 => exact BindsTo.of_eq rfl); (case hlw11 => exact locs rfl); (case hcw11 => decide); (case c1w11 => rfl); (case c2w11 => rfl); (case c3w11 => rfl); k_whole); walk_at "my inL"; (try dsimp only); (try k_fold))
  k_with "my enterC" => (k_dflt (refine' enterC ?Xw12 ?Tw12 ?hdw12 ?how12 ?hcdw12 ?hbw12 ?hlw12 ?hnw12 ?c1w12 ?c2w12 ?c3w12 ?_; (case Xw12 => assumption); (case Tw12 => assumption); (case hdw12 => (show _ < 1000; omega)); (case how12 => k_is); (case hcdw12 => k_is); (case hbw12 => exact BindsTo.of_eq rfl); (case hlw12 => rfl); (case hnw12 => decide +kernel); (case c1w12 => rfl); (case c2w12 => rfl); (case c3w12 => rfl); k_whole); walk_at "my inC"; (try dsimp only); (try k_fold))
  k_with "my end" => ((try dsimp only); (try k_unfold); (try dsimp only))
  k_with "call builtin:list.extend" => ((show wpAny _ _ (call (Value.builtin "list.extend") [Value.ref _, Value.ref _]) _ _ _); k_dflt (refine' extend_my ?k1w14 ?k2w14 ?k3w14 ?k4w14 ?zw14 ?_; (case k1w14 => k_asm); (case k2w14 => k_asm); (case k3w14 => k_updF); (case k4w14 => k_mem); (case zw14 => (simp only [PySem.sizeLine_eq, List.length_append, List.length_cons, List.length_nil]; omega)); k_whole); walk_at "my inX"; (try k_sweep))
  k_with "my sub" => repeat (first | exact List.forall_mem_nil _ | (refine List.forall_mem_cons.mpr ⟨by k_mem, ?_⟩))
  w_on
  revert X; k_fill; intro X
  k_dflt (refine' enter (K := Mine.hk.heap_1 w.params) ?X ?T ?hd ?ho ?hcd ?hb ?hl ?hc ?c1 ?c2 ?c3 ?_; (case X => assumption); (case T => assumption); (case hd => (show dp < 1000; omega)); (case ho => k_is); (case hcd => k_is); (case hb => exact BindsTo.of_eq rfl); (case hl => exact locs rfl); (case hc => decide); (case c1 => rfl); (case c2 => rfl); (case c3 => rfl); k_whole)
  intro L' h' F' N'
  try dsimp only
  try k_fold
  (k_with "pyIter ref" => k_state (fun pre a b c d => DrawP pre a b c d) "a" "b" "c" "d")
  (k_with "exec While Compare cons nil" => k_while (fun script a b c d row => BackP row a b c d) (fun script a b c d row => mu a b c d) "a" "b" "c" "d" "row")
  (k_with "state" => first | exact drawP_start | exact drawP_step (by assumption) (by assumption) (by assumption) (by assumption) | exact backP_start (by assumption) (by assumption) | exact (backP_zero (by assumption) (by assumption) (by assumption)).1 | exact (backP_ne (by assumption) (by assumption) (by assumption)).1)
  (k_with "measure" => first | exact (backP_zero (by assumption) (by assumption) (by assumption)).2 | exact (backP_ne (by assumption) (by assumption) (by assumption)).2)
  walk_at "my steps"
  all_goals (dsimp only; k_unfold; (try dsimp only))
  exact hret _ _ _ _ _ _ (Fr.keep (by assumption)) (News.get (by assumption) (by k_mem)) (by assumption) (backP_done (by assumption) (by assumption)) (News.fresh (by assumption) (by k_mem))
end
section
theorem parts_call (w : World) (loose : List Str) (mean : ExcName → Option Value) (mg mb : Str → Option Value) (dp un : Nat) (fr : Option (List Env)) (gd : Option (List Code)) (s : Shared)
    (Q E : Value → Shared → Prop) (X : (Mine.hk.heap_1 w.params).In s.heap) (T : Top topProg loose mean mg mb s.heap) (hd : dp < 900)
    (d : Addr) (vs : List Value) (ns : List Int) (hL : s.heap.IsList d vs.toArray) (hI : IntsAre vs ns) (hr : Ring ns) (hlen : ns.length ≤ 32800) (grey : Int) (tg : Tok)
    (hret : ∀ D h' tk' n rs, (∀ b o, s.heap.get? b = some o → h'.get? b = some o) → h'.get? D = some (W.listOf (List.toArray rs) n) → IntsAre rs (partsOf grey ns) → s.heap.get? D = none → Q (.ref D) { s with heap := h', toks := tk' }) :
    wpAny (model PySem.Challenge.rw_rl0058_01.row.prog w) (AA dp fr gd un) (call (.ref 91) [.ref d, .int grey tg]) Q E s := by
  k_with_none
  k_with "my fold" => ((try (with_reducible refine GTurn.letG ?_; intro gk)); (try (show wpAny _ _ _ _ _ _; k_fold)))
  k_with "my steps" => (walk_at "my fold"; repeat' (first | (k_unfold; (try dsimp only)) | (k_end; wrow_close) | walk1 | (dsimp only; walk1) | (leave1; walk_say "STEP leave1"; try dsimp only) | fail "no step"))
  k_with "my pick" => first | with_reducible assumption | with_reducible exact And.left (by assumption) | with_reducible exact And.left (And.right (by assumption)) | with_reducible exact And.left (And.right (And.right (by assumption))) | with_reducible exact And.left (And.right (And.right (And.right (by assumption)))) | with_reducible exact And.left (And.right (And.right (And.right (And.right (by assumption))))) | with_reducible exact And.left (And.right (And.right (And.right (And.right (And.right (by assumption)))))) | with_reducible exact And.left (And.right (And.right (And.right (And.right (And.right (And.right (by assumption))))))) | with_reducible exact And.left (And.right (And.right (And.right (And.right (And.right (And.right (And.right (by assumption)))))))) | with_reducible exact And.left (And.right (And.right (And.right (And.right (And.right (And.right (And.right (And.right (by assumption))))))))) | with_reducible exact And.left (And.right (And.right (And.right (And.right (And.right (And.right (And.right (And.right (And.right (by assumption)))))))))) | with_reducible exact And.left (And.right (And.right (And.right (And.right (And.right (And.right (And.right (And.right (And.right (And.right (by assumption)))))))))))
  k_with "my ne" => first | exact Nat.ne_of_gt (by walk_at "my pick") | exact Nat.ne_of_lt (by walk_at "my pick") | walk_at "my pick" | exact Ne.symm (by walk_at "my pick")
  k_with "my kn" => (first | walk_at "my ne" | omega)
  k_with "my kne" => (refine neN ?_; (try dsimp only); walk_at "my kn")
  k_with "eval Name" => (k_here; k_dflt (refine' nameX_L ?Fw6 ?vw6 ?_ ?aw6 ?bw6; (case Fw6 => k_asm); (case aw6 => rfl); (case bw6 => rfl); (case vw6 => exact Eq.refl (some _)); k_whole))
  k_with "execs cons" => ((show wpAny _ _ _ _ _ _); k_fold)
  k_with "call builtin:max" => ((with_reducible show wpAny _ _ (call (Value.builtin "max") [Value.int _ _, Value.int _ _, Value.int _ _]) _ _ _); (with_unfolding_all refine' max3_N ?k0w8 ?k1w8 ?k2w8 ?_; (case k0w8 => rfl); (case k1w8 => k_asm); (case k2w8 => k_asm); k_whole); walk_at "my in5"; (try k_sweep))
  k_with "call builtin:min" => ((with_reducible show wpAny _ _ (call (Value.builtin "min") [Value.int _ _, Value.int _ _, Value.int _ _]) _ _ _); (with_unfolding_all refine' min3_N ?k0w9 ?k1w9 ?k2w9 ?_; (case k0w9 => rfl); (case k1w9 => k_asm); (case k2w9 => k_asm); k_whole); walk_at "my in5"; (try k_sweep))
  k_with "call builtin:list.append" => ((show wpAny _ _ (call (Value.builtin "list.append") [Value.ref _, _]) _ _ _); k_dflt (refine' append_K ?k1w10 ?k2w10 ?k3w10 ?_ ?zw10; (case k1w10 => k_asm); (case k2w10 => k_asm); (case k3w10 => k_upd); (case zw10 => size_fits); k_whole); walk_at "my in3"; (try k_sweep))
  k_with "my enter" => (k_dflt (refine' enter ?Xw11 ?Tw11 ?hdw11 ?how11 ?hcdw11 ?hbw11 ?hlw11 ?hcw11 ?c1w11 ?c2w11 ?c3w11 ?_; (case Xw11 => assumption); (case Tw11 => assumption); (case hdw11 => (show _ < 1000; omega)); (case how11 => k_is); (case hcdw11 => k_is); (case hbw11 => exact BindsTo.of_eq rfl); (case hlw11 => exact locs rfl); (case hcw11 => decide); (case c1w11 => rfl); (case c2w11 => rfl); (case c3w11 => rfl); k_whole); walk_at "my inL"; (try dsimp only); (try k_fold))
  k_with "my enterC" => (k_dflt (refine' enterC ?Xw12 ?Tw12 ?hdw12 ?how12 ?hcdw12 ?hbw12 ?hlw12 ?hnw12 ?c1w12 ?c2w12 ?c3w12 ?_; (case Xw12 => assumption); (case Tw12 => assumption); (case hdw12 => (show _ < 1000; omega)); (case how12 => k_is); (case hcdw12 => k_is); (case hbw12 => exact BindsTo.of_eq rfl); (case hlw12 => rfl); (case hnw12 => decide +kernel); (case c1w12 => rfl); (case c2w12 => rfl); (case c3w12 => rfl); k_whole); walk_at "my inC"; (try dsimp only); (try k_fold))
  k_with "my end" => ((try dsimp only); (try k_unfold); (try dsimp only))
  k_with "call builtin:list.extend" => ((show wpAny _ _ (call (Value.builtin "list.extend") [Value.ref _, Value.ref _]) _ _ _); k_dflt (refine' extend_my ?k1w14 ?k2w14 ?k3w14 ?k4w14 ?zw14 ?_; (case k1w14 => k_asm); (case k2w14 => k_asm); (case k3w14 => k_updF); (case k4w14 => k_mem); (case zw14 => (simp only [PySem.sizeLine_eq, List.length_append, List.length_cons, List.length_nil]; omega)); k_whole); walk_at "my inX"; (try k_sweep))
  k_with "my sub" => repeat (first | exact List.forall_mem_nil _ | (refine List.forall_mem_cons.mpr ⟨by k_mem, ?_⟩))
  w_on
  revert X; k_fill; intro X
  walk_at "my enter"
  (k_with "pyIter ref" => k_state (fun pre a b c d parts => PartsP grey pre a b c d parts) "a" "b" "c" "d" "parts")
  (k_with "state" => first | exact partsP_start _ | exact partsP_step (by assumption) (by assumption) (by assumption) (by assumption))
  walk_at "my steps"

  all_goals (walk_at "my end")

  subst_vars
  exact hret _ _ _ _ _ (Fr.keep (by assumption)) (News.get (by assumption) (by k_mem)) (by assumption) (News.fresh (by assumption) (by k_mem))
end
section
theorem read_call (w : World) (loose : List Str) (mean : ExcName → Option Value) (mg mb : Str → Option Value) (dp un : Nat) (env0 : Env) (gd : Option (List Code)) (s : Shared)
    (Q E : Value → Shared → Prop) (g₀ : Heap) (G : Gd w loose mean mg mb g₀) (S : g₀.StaysIn s.heap) (hd : dp < 600)
    (L0 : Addr) (o0 : Obj) (hf0 : env0.frame = some L0) (hk0 : env0.scope.kind ≠ .module) (hL0 : s.heap.get? L0 = some o0) (hd0 : ∀ vs, o0.data ≠ .fields vs) (hg0 : g₀.get? L0 = none)
    (h44 : s.heap.get? 44 = some (tabObj #[]))
    (d : Addr) (vs : List Value) (ms : List Int) (hL : s.heap.IsList d vs.toArray) (hI : IntsAre vs ms) (hnn : ∀ p ∈ ms, 0 ≤ p ∧ p < 1048576) (hlen : ms.length ≤ 100000) (hne : ms ≠ []) (hdL : d ≠ L0)
    (hret : ∀ D h' tk' rs e c oc us uq, (∀ b o, b ≠ 44 → b ≠ L0 → s.heap.get? b = some o → h'.get? b = some o) → (∃ sl, h'.get? L0 = some { o0 with slots := sl }) → h'.get? 44 = some (tab44 c) → s.heap.get? c = none → h'.get? c = some oc → oc.data = .fields us → us[1]? = some (.str q44 uq) →
      s.heap.get? D = none → h'.get? D = some (lstObj rs e) → IntsAre rs ms → Q (.ref D) { s with heap := h', toks := tk' }) :
    wpAny (model PySem.Challenge.rw_rl0058_01.row.prog w) (AA dp (some [env0]) gd un) (call (.ref 96) [.ref d]) Q E s := by
  k_with_none
  k_with "my fold" => ((try (with_reducible refine GTurn.letG ?_; intro gk)); (try (show wpAny _ _ _ _ _ _; k_fold)))
  k_with "my steps" => (walk_at "my fold"; repeat' (first | (k_unfold; (try dsimp only)) | (k_end; wrow_close) | walk1 | (dsimp only; walk1) | (leave1; walk_say "STEP leave1"; try dsimp only) | fail "no step"))
  k_with "my pick" => first | with_reducible assumption | with_reducible exact And.left (by assumption) | with_reducible exact And.left (And.right (by assumption)) | with_reducible exact And.left (And.right (And.right (by assumption))) | with_reducible exact And.left (And.right (And.right (And.right (by assumption)))) | with_reducible exact And.left (And.right (And.right (And.right (And.right (by assumption))))) | with_reducible exact And.left (And.right (And.right (And.right (And.right (And.right (by assumption)))))) | with_reducible exact And.left (And.right (And.right (And.right (And.right (And.right (And.right (by assumption))))))) | with_reducible exact And.left (And.right (And.right (And.right (And.right (And.right (And.right (And.right (by assumption)))))))) | with_reducible exact And.left (And.right (And.right (And.right (And.right (And.right (And.right (And.right (And.right (by assumption))))))))) | with_reducible exact And.left (And.right (And.right (And.right (And.right (And.right (And.right (And.right (And.right (And.right (by assumption)))))))))) | with_reducible exact And.left (And.right (And.right (And.right (And.right (And.right (And.right (And.right (And.right (And.right (And.right (by assumption)))))))))))
  k_with "my ne" => first | exact Nat.ne_of_gt (by walk_at "my pick") | exact Nat.ne_of_lt (by walk_at "my pick") | walk_at "my pick" | exact Ne.symm (by walk_at "my pick")
  k_with "my kn" => (first | walk_at "my ne" | omega)
  k_with "my kne" => (refine neN ?_; (try dsimp only); walk_at "my kn")
  k_with "eval Name" => (k_here; k_dflt (refine' nameX_L ?Fw6 ?vw6 ?_ ?aw6 ?bw6; (case Fw6 => k_asm); (case aw6 => rfl); (case bw6 => rfl); (case vw6 => exact Eq.refl (some _)); k_whole))
  k_with "execs cons" => ((show wpAny _ _ _ _ _ _); k_fold)
  k_with "call builtin:max" => ((with_reducible show wpAny _ _ (call (Value.builtin "max") [Value.int _ _, Value.int _ _, Value.int _ _]) _ _ _); (with_unfolding_all refine' max3_N ?k0w8 ?k1w8 ?k2w8 ?_; (case k0w8 => rfl); (case k1w8 => k_asm); (case k2w8 => k_asm); k_whole); walk_at "my in5"; (try k_sweep))
  k_with "call builtin:min" => ((with_reducible show wpAny _ _ (call (Value.builtin "min") [Value.int _ _, Value.int _ _, Value.int _ _]) _ _ _); (with_unfolding_all refine' min3_N ?k0w9 ?k1w9 ?k2w9 ?_; (case k0w9 => rfl); (case k1w9 => k_asm); (case k2w9 => k_asm); k_whole); walk_at "my in5"; (try k_sweep))
  k_with "call builtin:list.append" => ((show wpAny _ _ (call (Value.builtin "list.append") [Value.ref _, _]) _ _ _); k_dflt (refine' append_K ?k1w10 ?k2w10 ?k3w10 ?_ ?zw10; (case k1w10 => k_asm); (case k2w10 => k_asm); (case k3w10 => k_upd); (case zw10 => size_fits); k_whole); walk_at "my in3"; (try k_sweep))
  k_with "my enter" => (k_dflt (refine' enter ?Xw11 ?Tw11 ?hdw11 ?how11 ?hcdw11 ?hbw11 ?hlw11 ?hcw11 ?c1w11 ?c2w11 ?c3w11 ?_; (case Xw11 => assumption); (case Tw11 => assumption); (case hdw11 => (show _ < 1000; omega)); (case how11 => k_is); (case hcdw11 => k_is); (case hbw11 => exact BindsTo.of_eq rfl); (case hlw11 => exact locs rfl); (case hcw11 => decide); (case c1w11 => rfl); (case c2w11 => rfl); (case c3w11 => rfl); k_whole); walk_at "my inL"; (try dsimp only); (try k_fold))
  k_with "my enterC" => (k_dflt (refine' enterC ?Xw12 ?Tw12 ?hdw12 ?how12 ?hcdw12 ?hbw12 ?hlw12 ?hnw12 ?c1w12 ?c2w12 ?c3w12 ?_; (case Xw12 => assumption); (case Tw12 => assumption); (case hdw12 => (show _ < 1000; omega)); (case how12 => k_is); (case hcdw12 => k_is); (case hbw12 => exact BindsTo.of_eq rfl); (case hlw12 => rfl); (case hnw12 => decide +kernel); (case c1w12 => rfl); (case c2w12 => rfl); (case c3w12 => rfl); k_whole); walk_at "my inC"; (try dsimp only); (try k_fold))
  k_with "my end" => ((try dsimp only); (try k_unfold); (try dsimp only))
  k_with "call builtin:list.extend" => ((show wpAny _ _ (call (Value.builtin "list.extend") [Value.ref _, Value.ref _]) _ _ _); k_dflt (refine' extend_my ?k1w14 ?k2w14 ?k3w14 ?k4w14 ?zw14 ?_; (case k1w14 => k_asm); (case k2w14 => k_asm); (case k3w14 => k_updF); (case k4w14 => k_mem); (case zw14 => (simp only [PySem.sizeLine_eq, List.length_append, List.length_cons, List.length_nil]; omega)); k_whole); walk_at "my inX"; (try k_sweep))
  k_with "my sub" => repeat (first | exact List.forall_mem_nil _ | (refine List.forall_mem_cons.mpr ⟨by k_mem, ?_⟩))
  k_with "exec While Constant cons nil" => refine Hold.out ?_
  k_with "call builtin:iter" => ((with_reducible show wpAny _ _ (call (Value.builtin "iter") [Value.ref _]) _ _ _); k_dflt (refine' iter_my ?Fw17 ?Nw17 ?lw17 ?_; (case Fw17 => k_asm); (case Nw17 => k_asm); (case lw17 => is_list)); walk_at "my inI"; (try k_sweep))
  k_with "subscriptTail Name Slice ref ref" => ((with_reducible show wpAny _ _ (subscriptTail _ (PySem.Expr.Slice none (some _) none _) (Value.ref _) (Value.ref _)) _ _ _); k_dflt (refine' slice_my ?Fw18 ?Nw18 ?lw18 .none (.int 1 _) .none ?z0w18 ?ew18 ?_ ?sw18 ?tw18 ?zw18; (case Fw18 => k_asm); (case Nw18 => k_asm); (case lw18 => exact ⟨_, News.get (by k_asm) (.head _), rfl, _, rfl⟩); (case z0w18 => decide); (case ew18 => exact pick_take1 _); (case sw18 => with_unfolding_all rfl); (case tw18 => kmk_pure); (case zw18 => ((rename IntsAre _ _ => hI8); rw [hI8.length, List.length_append, dgI_length]; refine Nat.le_trans (m := 600000) ?_ (by rw [PySem.sizeLine_eq]; decide); (simp only [List.length_cons, List.length_nil]); omega))); walk_at "my inE"; (try k_sweep))
  k_with "binaryOp Add ref ref" => ((with_reducible show wpAny _ _ (binaryOp _ (Value.ref _) (Value.ref _)) _ _ _); k_dflt (refine' kmk_add_ints ?Fw19 ?Nw19 ?aw19 ?bw19 ?iw19 ?jw19 ?_ ?zw19; (case Fw19 => k_asm); (case Nw19 => k_asm); (case aw19 => kmk_list); (case bw19 => kmk_list); (case iw19 => l_ints); (case jw19 => l_ints); (case zw19 => (simp only [PySem.sizeLine_eq, List.length_map, List.length_reverse, List.length_drop, List.length_take, List.length_append, List.length_cons, List.length_nil, dgI_length]; omega))); walk_at "my inW"; (try k_sweep))
  k_with "call builtin:list.extend" => refine Hold.out ?_
  k_with "eval ListComp" => refine Hold.out ?_
  k_with "subscriptTail Name Slice ref ref" => ((with_reducible show wpAny _ _ (subscriptTail _ (PySem.Expr.Slice none (some _) (some _) _) (Value.ref _) (Value.ref _)) _ _ _); k_dflt (refine' slice_my ?Fw22 ?Nw22 ?lw22 .none (.int 0 _) (.int (-1) _) ?z0w22 ?ew22 ?_ ?sw22 ?tw22 ?zw22; (case Fw22 => k_asm); (case Nw22 => k_asm); (case lw22 => exact ⟨_, News.get (by k_asm) (by k_mem), rfl, _, rfl⟩); (case z0w22 => decide); (case ew22 => exact pick_tail (by omega)); (case sw22 => with_unfolding_all rfl); (case tw22 => kmk_pure); (case zw22 => (rw [PySem.sizeLine_eq]; omega))); walk_at "my inD"; (try k_sweep))
  k_with "my enterN" => (k_dflt (refine' enterN ?news ?Xw23 ?Tw23 ?Sw23 ?hn ?hdw23 ?how23 ?hcdw23 ?hbw23 ?hlw23 ?hcw23 ?c1w23 ?c2w23 ?c3w23 ?_; (case Xw23 => assumption); (case Tw23 => assumption); (case Sw23 => assumption); (case hdw23 => (show _ < 1000; omega)); (case how23 => k_is); (case hcdw23 => k_is); (case hbw23 => exact BindsTo.of_eq rfl); (case hlw23 => exact locs rfl); (case hcw23 => decide); (case c1w23 => rfl); (case c2w23 => rfl); (case c3w23 => rfl)))
  k_with "pyIter ref" => ((with_reducible show wpAny _ _ (pyIter (Value.ref _)) (fun it s₂ => LoopAtV _ _ _ _ _ _ _ _ _ it s₂) _ _); refine Hold.out ?_)
  obtain ⟨X, T, C48, C55, n44, n51⟩ := id G
  w_on
  revert X; k_fill; intro X
  have hL44 : L0 ≠ 44 := fun q => by rw [q, h44] at hL0; cases hL0; exact hd0 _ rfl
  have hd44 : d ≠ 44 := fun q => by
    obtain ⟨o, e, hc, n, hdd⟩ := hL
    rw [q, h44] at e; cases e; cases hdd
  walk_at "my enterN"
  case news => exact [(44, tabObj #[]), (L0, o0)]
  case hn =>
    intro p hp
    rcases List.mem_cons.mp hp with rfl | hp
    · exact h44
    · rw [List.mem_singleton.mp hp]; exact hL0
  intro L' h' F' N' l0
  dsimp only [List.map] at F' N'
  have sg : g₀.StaysIn (hideAll s.heap [44, L0]) := fun b o e => hideAll_get _ (S b o e) (by
    intro q
    rcases List.mem_cons.mp q with rfl | q
    · rw [n44] at e; cases e
    · rw [List.mem_singleton.mp q, hg0] at e; cases e)
  have X' := X.keeps sg
  have T' := T.keeps sg
  have hLd : (hideAll s.heap [44, L0]).IsList d vs.toArray := hL.at fun o e => hideAll_get _ e (by
    intro q
    rcases List.mem_cons.mp q with q | q
    · exact hd44 q
    · exact hdL (List.mem_singleton.mp q))
  k_lt l0
  (try dsimp only)
  (try k_fold)
  walk_at "my steps"
  refine Hold.mk ?_
  rename IntsAre _ _ => hI
  rename_i Do hx1 lDo hx2 F1 N1
  obtain ⟨m₀, hm₀, F1⟩ := name_map F1
  have hvl : vs.length = ms.length := hI.length
  refine iter_fwd (vs := vs) (m₀ := m₀) (news := [(Do, W.listOf #[] 0), (44, tabObj #[]), (L0, o0)])
    (fun i m nx => ∃ (ov : List Value) (oi : List Int) (e : Nat), IntsAre ov oi ∧ oi = (ms.take i).flatMap octP ∧
      ((nx = [(Do, lstObj ov e), (44, tabObj #[]), (L0, o0)] ∧ i = 0) ∨ ∃ (c : Addr) (oc : Obj) (us : Array Value) (uq : Tok), nx = [(Do, lstObj ov e), (c, oc), (44, tab44 c), (L0, o0)] ∧ oc.data = .fields us ∧ us[1]? = some (.str q44 uq) ∧ AllNe c [(Do, lstObj ov e), (44, tabObj #[]), (L0, o0)]) ∧
      ∀ z, z ≠ Str.ofString "part" → z ≠ Str.ofString "figures" → m z = m₀ z) rfl hLd ?F ?N ?hj ?turn ?done
  case F => exact F1
  case N => exact N1
  case hj => exact ⟨[], [], 0, .nil, rfl, .inl ⟨rfl, rfl⟩, fun _ _ _ => rfl⟩
  case turn =>
    rintro I i v m₁ nx h5 tk5 oI hi hv ⟨ov, oi, e, hoI, hoi, hnx, hm⟩ hne5 F5 N5
    rw [hvl] at hi
    obtain ⟨tv, hv2⟩ := hI.get i _ (List.getElem?_eq_getElem hi)
    rw [hv2] at hv
    obtain rfl := Option.some.inj hv
    have hp := hnn _ (List.getElem_mem hi)
    obtain ⟨x, hx⟩ : ∃ x : Nat, ms[i] = (x : Int) := ⟨(ms[i]).toNat, by omega⟩
    have hx20 : x < 1048576 := by omega
    have hstep : oi ++ oct (dgI 6 (cnt x 6) x) = (ms.take (i + 1)).flatMap octP := by
      rw [hoi, List.take_add_one, List.getElem?_eq_getElem hi, List.flatMap_append]
      simp [octP, hx]
    have hol : oi.length ≤ 500000 := by
      have := octs_len (l := ms.take i) fun p hp => (hnn p (List.mem_of_mem_take hp)).2
      rw [← hoi, List.length_take] at this
      omega
    rw [hx] at F5
    have hmm := map_cat2 (x := Str.ofString "part") (y := Str.ofString "figures") (vx := some (.int x tv)) (rfl : m₁ (Str.ofString "figures") = m₁ (Str.ofString "figures")) hm
    rw [hmm, hm₀] at F5
    generalize m₁ (Str.ofString "figures") = fu at F5
    have hx6 : cnt x 6 ≤ 4 := cnt6 hx20
    rcases hnx with ⟨rfl, rfl⟩ | ⟨c, oc, us, uq, rfl, hdt, hus, hcn⟩
    · dsimp only [AllNe] at hne5
      walk_at "my steps"
      show wpAny _ _ (call (.ref 49) [.int x _, .int _ _]) _ _ _
      k_dflt (refine' i2d_led (n := 6) (ps := #[]) G sg ?hd ?F ?N ?U ?hps ?a1 ?a2 ?a3 ?_ ?_; (case hd => (show dp + 1 < 800; omega)); (case F => k_asm); (case N => k_asm); (case U => k_updF); (case hps => exact .inl rfl); (case a1 => exact Nat.lt_trans hx20 (by decide)); (case a2 => decide); (case a3 => decide))
      · intro h; exact absurd rfl h
      intro _ D7 h7 tk7 fv e7 c oc us uq F7 N7 l7 l8 hdt hus hfI
      dsimp only [AllNe] at l7 l8 N7
      have hfl : fv.length ≤ 4 := by rw [hfI.length, dgI_length]; exact hx6
      have hfr : IntsAre ((fv.drop 1).reverse) (((dgI 6 (cnt x 6) x).drop 1).reverse) := (hfI.drop 1).reverse
      have hovl : ov.length ≤ 500000 := by rw [hoI.length]; exact hol
      walk_at "my steps"
      refine Hold.mk ?_
      rename Fr _ _ _ _ => F8
      refine ListComp_G (cl := []) F8 rfl (by decide) rfl (by decide) ?_
      walk_at "my steps"
      rename News _ _ _ _ => N8
      rename Fr _ _ _ _ => F8
      refine .inl (srcGL_ints (fun f => 64 + f) rfl F8 N8 (.inr ⟨_, .head _, rfl, _, rfl⟩) hfr ?_ rfl rfl ?_ ?_)
      · rw [PySem.sizeLine_eq]; simp only [List.length_reverse, List.length_drop]; omega
      · intro f9 t9 I9 oI9 C9 oC9 D9 ys9 m9 ex9 s9 E9 hf9 hm9 hC9 F9 N9 off9 ne9
        simp only [List.cons_append, List.nil_append] at N9
        walk_at "my steps"
        exact GEnd.intro [] F9 N9 (fun p hp => hp) trivial trivial
      intro D9 h9 tk9 ys9 e9 F9 N9 l9 hI9
      dsimp only [AllNe] at l9
      walk_at "my steps"
      refine Hold.mk ?_
      rename News _ _ _ _ => N10
      rename Fr _ _ _ _ => F10
      rename IntsAre _ _ => hI10
      have hl10 := hI10.length
      simp only [List.length_map, List.length_reverse, List.length_drop, List.length_take, List.length_append, List.length_cons, List.length_nil, dgI_length] at hl10
      show wpAny _ _ (call (Value.builtin "list.extend") [Value.ref Do, Value.ref _]) _ _ _
      k_dflt (refine' extend_my ?k1 ?k2 ?k3 ?k4 ?z ?_; (case k1 => k_asm); (case k2 => k_asm); (case k3 => k_updF); (case k4 => exact .head _); (case z => (have hz9 : ov.length ≤ 500000 := hovl; rw [hl10]; refine Nat.le_trans (m := 600000) ?_ (by rw [PySem.sizeLine_eq]; decide); omega)))
      intro h11 n11 F11 N11
      (try dsimp only at N11)
      walk_at "my steps"
      rename News _ _ _ _ => N12
      rename Fr _ _ _ _ => F12
      refine led_end [(Do, lstObj (ov ++ _) n11), (c, oc), (44, tab44 c), (L0, o0)] F12 N12 (by walk_at "my sub") ⟨hne5.1, l8.1.symm, hne5.2.1, hne5.2.2.1, trivial⟩ ?_
      refine ⟨_, _, n11, hoI.append hI10, hstep, .inr ⟨c, oc, us, uq, rfl, hdt, hus, ⟨l8.2.1, l8.2.2.1, l8.2.2.2.1, trivial⟩⟩, fun z z1 z2 => ?_⟩
      rw [hm₀]; dsimp only; simp only [z1, z2, if_false]
    · dsimp only [AllNe] at hne5 hcn
      walk_at "my steps"
      show wpAny _ _ (call (.ref 49) [.int x _, .int _ _]) _ _ _
      k_dflt (refine' i2d_led (n := 6) (ps := #[rawInt 73, rawInt 4, .ref c]) G sg ?hd ?F ?N ?U ?hps ?a1 ?a2 ?a3 ?_ ?_; (case hd => (show dp + 1 < 800; omega)); (case F => k_asm); (case N => k_asm); (case U => k_updF); (case hps => exact .inr ⟨c, rfl, c, oc, us, uq, rfl, News.get (by k_asm) (by k_mem), hdt, hus⟩); (case a1 => exact Nat.lt_trans hx20 (by decide)); (case a2 => decide); (case a3 => decide))
      rotate_left
      · intro h; exact absurd h (by simp)
      intro _ D7 h7 tk7 fv e7 F7 N7 l7 hfI
      dsimp only [AllNe] at l7
      have hfl : fv.length ≤ 4 := by rw [hfI.length, dgI_length]; exact hx6
      have hfr : IntsAre ((fv.drop 1).reverse) (((dgI 6 (cnt x 6) x).drop 1).reverse) := (hfI.drop 1).reverse
      have hovl : ov.length ≤ 500000 := by rw [hoI.length]; exact hol
      walk_at "my steps"
      refine Hold.mk ?_
      rename Fr _ _ _ _ => F8
      refine ListComp_G (cl := []) F8 rfl (by decide) rfl (by decide) ?_
      walk_at "my steps"
      rename News _ _ _ _ => N8
      rename Fr _ _ _ _ => F8
      refine .inl (srcGL_ints (fun f => 64 + f) rfl F8 N8 (.inr ⟨_, .head _, rfl, _, rfl⟩) hfr ?_ rfl rfl ?_ ?_)
      · rw [PySem.sizeLine_eq]; simp only [List.length_reverse, List.length_drop]; omega
      · intro f9 t9 I9 oI9 C9 oC9 D9 ys9 m9 ex9 s9 E9 hf9 hm9 hC9 F9 N9 off9 ne9
        simp only [List.cons_append, List.nil_append] at N9
        walk_at "my steps"
        exact GEnd.intro [] F9 N9 (fun p hp => hp) trivial trivial
      intro D9 h9 tk9 ys9 e9 F9 N9 l9 hI9
      dsimp only [AllNe] at l9
      walk_at "my steps"
      refine Hold.mk ?_
      rename News _ _ _ _ => N10
      rename Fr _ _ _ _ => F10
      rename IntsAre _ _ => hI10
      have hl10 := hI10.length
      simp only [List.length_map, List.length_reverse, List.length_drop, List.length_take, List.length_append, List.length_cons, List.length_nil, dgI_length] at hl10
      show wpAny _ _ (call (Value.builtin "list.extend") [Value.ref Do, Value.ref _]) _ _ _
      k_dflt (refine' extend_my ?k1 ?k2 ?k3 ?k4 ?z ?_; (case k1 => k_asm); (case k2 => k_asm); (case k3 => k_updF); (case k4 => exact .head _); (case z => (have hz9 : ov.length ≤ 500000 := hovl; rw [hl10]; refine Nat.le_trans (m := 600000) ?_ (by rw [PySem.sizeLine_eq]; decide); omega)))
      intro h11 n11 F11 N11
      (try dsimp only at N11)
      walk_at "my steps"
      rename News _ _ _ _ => N12
      rename Fr _ _ _ _ => F12
      refine led_end [(Do, lstObj (ov ++ _) n11), (c, oc), (44, tab44 c), (L0, o0)] F12 N12 (by walk_at "my sub") ⟨hne5.1, hne5.2.1, hne5.2.2.1, hne5.2.2.2.1, trivial⟩ ?_
      refine ⟨_, _, n11, hoI.append hI10, hstep, .inr ⟨c, oc, us, uq, rfl, hdt, hus, hcn⟩, fun z z1 z2 => ?_⟩
      rw [hm₀]; dsimp only; simp only [z1, z2, if_false]
  case done =>
    rintro m₁ nx h5 tk5 ⟨ov, oi, e, hoI, hoi, hnx, hm⟩ F5 N5
    rcases hnx with ⟨-, h0⟩ | ⟨c, oc, us, uq, rfl, hdt, hus, hcn⟩
    · exact absurd (List.eq_nil_of_length_eq_zero (by omega)) hne
    dsimp only [AllNe] at hcn
    have hmm := map_cat2 (x := Str.ofString "part") (y := Str.ofString "figures") (vx := m₁ (Str.ofString "part")) (rfl : m₁ (Str.ofString "figures") = m₁ (Str.ofString "figures")) hm
    rw [map_self (Str.ofString "part") m₁, hmm, hm₀] at F5
    generalize m₁ (Str.ofString "figures") = fu at F5
    generalize m₁ (Str.ofString "part") = pu at F5
    walk_at "my steps"
    refine Hold.mk ?_
    rename ItO _ _ _ => hit0
    rename_i It h6 oIt F6a N6a lIt h6b Dt h6c lDt h6d F6 N6
    obtain ⟨m₂, hm₂, F6⟩ := name_map F6
    have hoi' : oi = ms.flatMap octP := by rw [hoi, hvl, List.take_length]
    have hovl : ov.length = (ms.flatMap octP).length := by rw [hoI.length, hoi']
    show wpAny _ _ (exec (.While _ _ [] _) _) _ _ _
    refine While_inv2 (n₀ := ms.length) (m := m₂) (news := [(Dt, W.listOf #[] 0), (It, oIt), (Do, lstObj ov e), (c, oc), (44, tab44 c), (L0, o0)]) (h₀ := hideAll s.heap [44, L0]) (L := L') (fun n m nx => m = m₂ ∧ ∃ (j : Nat) (tv : List Value) (et : Nat) (io : Obj), n = ms.length - j ∧ j ≤ ms.length ∧
      nx = [(Dt, lstObj tv et), (It, io), (Do, lstObj ov e), (c, oc), (44, tab44 c), (L0, o0)] ∧ ItO io Do (pos ms j) ∧ IntsAre tv (ms.take j)) ?F ?N ?hJ ?turn ?hE
    case F => exact F6
    case N => exact N6
    case hE => passes_own
    case hJ => exact ⟨rfl, 0, [], 0, oIt, rfl, Nat.zero_le _, rfl, hit0, .nil⟩
    case turn =>
      rintro n m₃ nx h7 tk7 F7 N7 ⟨rfl, j, tv, et, io, rfl, hj, rfl, hio, htI⟩
      rw [hm₂] at F7
      have htl : tv.length ≤ 100000 := by rw [htI.length, List.length_take]; omega
      rcases Nat.lt_or_ge j ms.length with hlt | hge
      · obtain ⟨c5, r5, e5, g5, v5⟩ := octP_grp (hnn _ (List.getElem_mem hlt)).1
        have hp5 := (hnn _ (List.getElem_mem hlt)).2
        have hdr := pos_drop hlt
        rw [e5, ← hoi', List.cons_append] at hdr
        have hps := pos_succ hlt
        rw [e5, List.length_cons] at hps
        walk_at "my steps"
        show wpAny _ _ (call (.ref 77) [.ref It]) _ _ _
        k_dflt (refine' varint_led (vs := ov) X T sg ?hd ?F ?N ?U hio ?hL hoI hdr g5 v5 ?hv ?_; (case hd => (show dp + 1 < 900; omega)); (case F => k_asm); (case N => k_asm); (case U => k_updF); (case hL => exact ⟨_, News.get (by k_asm) (by k_mem), rfl, _, rfl⟩); (case hv => omega))
        intro h8 tk8 t8 io8 F8 N8 hio8
        (try dsimp only at N8)
        walk_at "my steps"
        rename News _ _ _ _ => N9
        rename Fr _ _ _ _ => F9
        simp only [List.push_toArray] at N9
        refine ⟨_, _, m₃, _, ms.length - (j + 1), rfl, (by rw [hm₂]; exact F9), N9, (by omega), rfl, j + 1, tv ++ [.int ms[j] t8], et + 1, io8, rfl, hlt, rfl, ?_, ?_⟩
        · rw [hps]; exact hio8
        · rw [List.take_add_one, List.getElem?_eq_getElem hlt]; exact htI.append (.cons _ _ .nil)
      · have hje : j = ms.length := by omega
        have hend : ov.length = pos ms j := by rw [hje, pos_all, hovl]
        walk_at "my steps"
        show wpAny _ _ (call (.ref 77) [.ref It]) _ _ _
        have N8 := N7
        have F8 := F7
        have S8 : g₀.StaysIn _ := fun b o e => F8.keep b o (sg b o e)
        have zIt := N8 (It, io) (.tail _ (.head _))
        have zL0 := N8 (L0, o0) (by k_mem)
        obtain ⟨oL, esL, epL, hLo, hLd, hLr⟩ := id F8.ns
        have hLn : (hideAll s.heap [44, L0]).get? L' = none := Heap.get?_none_of_le F8.above
        have hItL' : It ≠ L' := zIt.2.1
        have hL0L' : L0 ≠ L' := zL0.2.1
        k_dflt (refine' varint_stop w loose mean mg mb (dp + 1) _ (envOf (Str.ofString "_law_read") _ L' 96 (.ref 95) :: [env0]) _ _ _ _ ?hX ?hT ?hd It Do (pos ms j) ov ?hit ?hL hend [It, L', L0] ?hout ?ha ?hita ?hE)
        case hX => exact X.keeps S8
        case hT => exact T.keeps S8
        case hd => omega
        case hit => exact hio.at zIt.1
        case hL => exact ⟨_, News.get N8 (by k_mem), rfl, _, rfl⟩
        case hita => exact .head _
        case hout =>
          refine ⟨hideAll h7 [L', L0], (by (show ScopeKind.function ≠ ScopeKind.module); decide), ⟨L', oL, rfl, hideAll_none _ (.head _), hLo, fun vs q => by rw [hLd] at q; cases q⟩, hk0, ⟨L0, o0, hf0, hideAll_none _ (.tail _ (.head _)), zL0.1, hd0⟩, trivial⟩
        case ha =>
          intro env henv a ha
          rcases List.mem_cons.mp henv with rfl | henv
          · have : L' = a := Option.some.inj ha
            rw [← this]; exact .tail _ (.head _)
          · rw [List.mem_singleton.mp henv, hf0] at ha
            rw [← Option.some.inj ha]; exact .tail _ (.tail _ (.head _))
        case hE =>
          intro e9 h9 tk9 a9 hfl hsl
          have off : ∀ b o, b ∉ [It, L', L0] → h7.get? b = some o → (hideAll h7 [It, L', L0]).get? b = some o := fun b o hb eb => hideAll_get _ eb hb
          have offN : ∀ b o, (hideAll s.heap [44, L0]).get? b = some o → b ∉ [It, L', L0] := fun b o eb hm => by
            rcases List.mem_cons.mp hm with q | hm
            · rw [q, zIt.2.2] at eb; cases eb
            rcases List.mem_cons.mp hm with q | hm
            · rw [q, hLn] at eb; cases eb
            · rw [List.mem_singleton.mp hm, zL0.2.2] at eb; cases eb
          refine wpAny_looks_onW (Around.frames_deeper rfl) rfl hfl fun h₄ hheld₄ hsm₄ => ?_
          refine wpAny_landsW hheld₄ fun h₅ hfl₅ hsm₅ => ?_
          have F₅ := F8.of_stays (fun b o eb => hfl₅.1 _ _ (off b o (offN b o eb) (F8.keep b o eb))) ((hsl.trans hsm₄).trans hsm₅)
          obtain ⟨ob, hob, hobc⟩ := hfl₅.there
          refine wpAny_handleBy_builtin (X := "StopIteration") (T := "StopIteration") (b := true) isExc_Stop notTuple_Stop owsi_facts.sub ?_
          k_dflt (refine' name_B F₅ ?k1 ?k2 ?k3 ?k4 ?k5 ?_; (case k1 => k_asm); (case k2 => k_asm); (case k3 => k_is); (case k4 => boot_by_name); (case k5 => decide))
          refine ⟨rfl, ⟨ob, hob, hobc⟩, ?_⟩
          rw [if_pos rfl]
          refine lands_againW hfl₅ fun h₆ hfl₆ hsm₆ => ?_
          have hup := ((hsl.trans hsm₄).trans hsm₅).trans hsm₆
          have F₆ := F8.of_stays (fun b o eb => hfl₆.1 _ _ (off b o (offN b o eb) (F8.keep b o eb))) hup
          refine wpAny_passesOwnAt PassesOwnAt.never ?_
          walk_at "my steps"
          have fz : ∀ b, (hideAll s.heap [44, L0]).get? b = none → b ≠ 44 → b ≠ L0 → s.heap.get? b = none := fun b hb h1 h2 => by
            cases eb : s.heap.get? b with
            | none => rfl
            | some o => rw [hideAll_get _ eb (by intro hm; rcases List.mem_cons.mp hm with q | hm; exact h1 q; exact h2 (List.mem_singleton.mp hm))] at hb; cases hb
          have g6 : ∀ b o, (b, o) ∈ [(Dt, lstObj tv et), (It, io), (Do, lstObj ov e), (c, oc), (44, tab44 c), (L0, o0)] → b ≠ It → b ≠ L0 → h₆.get? b = some o := fun b o hm h1 h2 =>
            hfl₆.1 _ _ (off b o (by
              intro hm2
              rcases List.mem_cons.mp hm2 with q | hm2
              · exact h1 q
              rcases List.mem_cons.mp hm2 with q | hm2
              · exact (N8 _ hm).2.1 q
              · exact h2 (List.mem_singleton.mp hm2)) (N8 _ hm).1)
          have hcI : c ≠ It := neN (by walk_at "my kn")
          have hDtI : Dt ≠ It := neN (by walk_at "my kn")
          have hDtL : Dt ≠ L0 := neN (by walk_at "my kn")
          have hDt4 : Dt ≠ 44 := neN (by walk_at "my kn")
          have h44I : (44 : Addr) ≠ It := neN (by walk_at "my kn")
          have htI' : IntsAre tv ms := by rw [hje, List.take_length] at htI; exact htI
          exact hret Dt h₆ _ tv et c oc us uq (fun b o h1 h2 eb => F₆.keep _ _ (hideAll_get _ eb (by intro hm; rcases List.mem_cons.mp hm with q | hm; exact h1 q; exact h2 (List.mem_singleton.mp hm)))) (hup _ _ zL0.1 hd0)
            (g6 _ _ (by k_mem) h44I hL44.symm) (fz _ (N8 (c, oc) (by k_mem)).2.2 (fun q => hcn.2.1 q.symm) (fun q => hcn.2.2.1 q.symm)) (g6 _ _ (by k_mem) hcI (fun q => hcn.2.2.1 q.symm)) hdt hus
            (fz _ (N8 (Dt, _) (.head _)).2.2 hDt4 hDtL) (g6 _ _ (.head _) hDtI hDtL) htI'
end
section
local macro_rules | `(tactic| k_all) => `(tactic| exact allNe_mem (by assumption))
theorem div_call (w : World) (loose : List Str) (mean : ExcName → Option Value) (mg mb : Str → Option Value) (dp un : Nat) (fr : Option (List Env)) (gd : Option (List Code)) (s : Shared)
    (Q E : Value → Shared → Prop) (g₀ : Heap) (G : Gd w loose mean mg mb g₀) (S : g₀.StaysIn s.heap) (hd : dp < 350) (h44 : Full44 s.heap) (h51 : s.heap.get? 51 = some (tabObj #[]))
    (d : Addr) (vs : List Value) (ps : List (Int × Int)) (hL : s.heap.IsList d vs.toArray) (hP : PtsAre s.heap vs ps) (hlen : ps.length ≤ 32800) (hne : ps ≠ [])
    (hbd : ∀ p ∈ ps, -32768 ≤ p.1 ∧ p.1 ≤ 32768 ∧ -32768 ≤ p.2 ∧ p.2 ≤ 32768 ∧ ¬ (p.1 = 0 ∧ p.2 = 0)) 
    (hret : ∀ D h' tk' rs e c oc us uq, (∀ b o, b ≠ 51 → s.heap.get? b = some o → h'.get? b = some o) → h'.get? 51 = some (tab51 c) → s.heap.get? c = none → h'.get? c = some oc → oc.data = .fields us → us[1]? = some (.str q51 uq) →
      s.heap.get? D = none → h'.get? D = some (lstObj rs e) → PtsAre h' rs ((List.range ps.length).map (divAt ps)) → (∀ j, j < ps.length → ∃ t, rs[j]? = some (.ref t) ∧ s.heap.get? t = none ∧ t ≠ D) → Q (.ref D) { s with heap := h', toks := tk' }) :
    wpAny (model PySem.Challenge.rw_rl0058_01.row.prog w) (AA dp fr gd un) (call (.ref 103) [.ref d]) Q E s := by
  k_with_none
  k_with "my fold" => ((try (with_reducible refine GTurn.letG ?_; intro gk)); (try (show wpAny _ _ _ _ _ _; k_fold)))
  k_with "my steps" => (walk_at "my fold"; repeat' (first | (k_unfold; (try dsimp only)) | (k_end; wrow_close) | walk1 | (dsimp only; walk1) | (leave1; walk_say "STEP leave1"; try dsimp only) | fail "no step"))
  k_with "my pick" => first | with_reducible assumption | with_reducible exact And.left (by assumption) | with_reducible exact And.left (And.right (by assumption)) | with_reducible exact And.left (And.right (And.right (by assumption))) | with_reducible exact And.left (And.right (And.right (And.right (by assumption)))) | with_reducible exact And.left (And.right (And.right (And.right (And.right (by assumption))))) | with_reducible exact And.left (And.right (And.right (And.right (And.right (And.right (by assumption)))))) | with_reducible exact And.left (And.right (And.right (And.right (And.right (And.right (And.right (by assumption))))))) | with_reducible exact And.left (And.right (And.right (And.right (And.right (And.right (And.right (And.right (by assumption)))))))) | with_reducible exact And.left (And.right (And.right (And.right (And.right (And.right (And.right (And.right (And.right (by assumption))))))))) | with_reducible exact And.left (And.right (And.right (And.right (And.right (And.right (And.right (And.right (And.right (And.right (by assumption)))))))))) | with_reducible exact And.left (And.right (And.right (And.right (And.right (And.right (And.right (And.right (And.right (And.right (And.right (by assumption)))))))))))
  k_with "my ne" => first | exact Nat.ne_of_gt (by walk_at "my pick") | exact Nat.ne_of_lt (by walk_at "my pick") | walk_at "my pick" | exact Ne.symm (by walk_at "my pick")
  k_with "my kn" => (first | walk_at "my ne" | omega)
  k_with "my kne" => (refine neN ?_; (try dsimp only); walk_at "my kn")
  k_with "eval Name" => (k_here; k_dflt (refine' nameX_L ?Fw6 ?vw6 ?_ ?aw6 ?bw6; (case Fw6 => k_asm); (case aw6 => rfl); (case bw6 => rfl); (case vw6 => exact Eq.refl (some _)); k_whole))
  k_with "execs cons" => ((show wpAny _ _ _ _ _ _); k_fold)
  k_with "call builtin:max" => ((with_reducible show wpAny _ _ (call (Value.builtin "max") [Value.int _ _, Value.int _ _, Value.int _ _]) _ _ _); (with_unfolding_all refine' max3_N ?k0w8 ?k1w8 ?k2w8 ?_; (case k0w8 => rfl); (case k1w8 => k_asm); (case k2w8 => k_asm); k_whole); walk_at "my in5"; (try k_sweep))
  k_with "call builtin:min" => ((with_reducible show wpAny _ _ (call (Value.builtin "min") [Value.int _ _, Value.int _ _, Value.int _ _]) _ _ _); (with_unfolding_all refine' min3_N ?k0w9 ?k1w9 ?k2w9 ?_; (case k0w9 => rfl); (case k1w9 => k_asm); (case k2w9 => k_asm); k_whole); walk_at "my in5"; (try k_sweep))
  k_with "call builtin:list.append" => ((show wpAny _ _ (call (Value.builtin "list.append") [Value.ref _, _]) _ _ _); k_dflt (refine' append_K ?k1w10 ?k2w10 ?k3w10 ?_ ?zw10; (case k1w10 => k_asm); (case k2w10 => k_asm); (case k3w10 => k_upd); (case zw10 => size_fits); k_whole); walk_at "my in3"; (try k_sweep))
  k_with "my enter" => (k_dflt (refine' enter ?Xw11 ?Tw11 ?hdw11 ?how11 ?hcdw11 ?hbw11 ?hlw11 ?hcw11 ?c1w11 ?c2w11 ?c3w11 ?_; (case Xw11 => assumption); (case Tw11 => assumption); (case hdw11 => (show _ < 1000; omega)); (case how11 => k_is); (case hcdw11 => k_is); (case hbw11 => exact BindsTo.of_eq rfl); (case hlw11 => exact locs rfl); (case hcw11 => decide); (case c1w11 => rfl); (case c2w11 => rfl); (case c3w11 => rfl); k_whole); walk_at "my inL"; (try dsimp only); (try k_fold))
  k_with "my enterC" => (k_dflt (refine' enterC ?Xw12 ?Tw12 ?hdw12 ?how12 ?hcdw12 ?hbw12 ?hlw12 ?hnw12 ?c1w12 ?c2w12 ?c3w12 ?_; (case Xw12 => assumption); (case Tw12 => assumption); (case hdw12 => (show _ < 1000; omega)); (case how12 => k_is); (case hcdw12 => k_is); (case hbw12 => exact BindsTo.of_eq rfl); (case hlw12 => rfl); (case hnw12 => decide +kernel); (case c1w12 => rfl); (case c2w12 => rfl); (case c3w12 => rfl); k_whole); walk_at "my inC"; (try dsimp only); (try k_fold))
  k_with "my end" => ((try dsimp only); (try k_unfold); (try dsimp only))
  k_with "call builtin:list.extend" => ((show wpAny _ _ (call (Value.builtin "list.extend") [Value.ref _, Value.ref _]) _ _ _); k_dflt (refine' extend_my ?k1w14 ?k2w14 ?k3w14 ?k4w14 ?zw14 ?_; (case k1w14 => k_asm); (case k2w14 => k_asm); (case k3w14 => k_updF); (case k4w14 => k_mem); (case zw14 => (simp only [PySem.sizeLine_eq, List.length_append, List.length_cons, List.length_nil]; omega)); k_whole); walk_at "my inX"; (try k_sweep))
  k_with "my sub" => repeat (first | exact List.forall_mem_nil _ | (refine List.forall_mem_cons.mpr ⟨by k_mem, ?_⟩))
  k_with "subscriptTail Name Name ref int" => ((with_reducible show wpAny _ _ (subscriptTail _ _ (Value.ref _) (Value.int _ _)) _ _ _); k_dflt (refine' item_any ?hlw16 ?hxw16 ?hkw16 ?hnw16 ?_ ?hsw16; (case hlw16 => is_list); (case hkw16 => assumption); (case hxw16 => assumption); (case hnw16 => omega); (case hsw16 => with_unfolding_all rfl); k_whole))
  k_with "subscriptTail Name BinOp ref int" => ((with_reducible show wpAny _ _ (subscriptTail _ _ (Value.ref _) (Value.int _ _)) _ _ _); k_dflt (refine' item_any ?hlw17 ?hxw17 ?hkw17 ?hnw17 ?_ ?hsw17; (case hlw17 => is_list); (case hkw17 => assumption); (case hxw17 => assumption); (case hnw17 => omega); (case hsw17 => with_unfolding_all rfl); k_whole))
  k_with "call builtin:len" => ((with_reducible show wpAny _ _ (call (Value.builtin "len") [Value.ref _]) _ _ _); k_dflt (refine' len_base ?Fw18 ?lw18 ?nw18 ?fw18 ?_; (case Fw18 => k_asm); (case lw18 => assumption); (case nw18 => assumption); (case fw18 => omega); k_whole))
  k_with "my enterN" => (k_dflt (refine' enterN ?news ?Xw19 ?Tw19 ?Sw19 ?hn ?hdw19 ?how19 ?hcdw19 ?hbw19 ?hlw19 ?hcw19 ?c1w19 ?c2w19 ?c3w19 ?_; (case Xw19 => assumption); (case Tw19 => assumption); (case Sw19 => assumption); (case hdw19 => (show _ < 1000; omega)); (case how19 => k_is); (case hcdw19 => k_is); (case hbw19 => exact BindsTo.of_eq rfl); (case hlw19 => exact locs rfl); (case hcw19 => decide); (case c1w19 => rfl); (case c2w19 => rfl); (case c3w19 => rfl)))
  k_with "pyIter ref" => ((with_reducible show wpAny _ _ (pyIter (Value.ref _)) (fun it s₂ => LoopAtV _ _ _ _ _ _ _ _ _ it s₂) _ _); refine Hold.out ?_)
  obtain ⟨X, T, C48, C55, n44, n51⟩ := id G
  w_on
  revert X; k_fill; intro X
  have hpt : TabPs 88 4 q51 #[] s.heap := .inl rfl
  walk_at "my enterN"
  case news => exact [(51, tabObj #[])]
  case hn => (intro p hp; simp only [List.mem_singleton] at hp; subst hp; exact h51)
  intro L' h' F' N' l0
  dsimp only [List.map] at F' N'
  have sg := stays_hide1 S n51
  have X' := X.keeps sg
  have T' := T.keeps sg
  have hLd := isList_hide h51 hL
  k_lt l0
  (try dsimp only)
  (try k_fold)
  have f44 : Full44 (hideAll s.heap [51]) := by
    obtain ⟨c, e1, e2⟩ := h44
    exact ⟨c, hide1_get e1 (by decide), codeRec_hideT ⟨_, h51, hpt⟩ e2⟩
  have hvl := hP.1
  walk_at "my steps"
  refine Hold.mk ?_
  rename_i Dp hx1 lDp hx2 F1 hx3 hx4 tk4 t4 u4 v4 hR F2 N2 hk2
  obtain ⟨m₀, hm₀, F2⟩ := name_map F2
  have hPd : PtsAre (hideAll s.heap [51]) vs ps := ⟨hP.1, fun i hi => by
    obtain ⟨t, ta, tb, e1, e2⟩ := hP.2 i hi
    exact ⟨t, ta, tb, e1, hide1_get e2 (fun q => by rw [q, h51] at e2; cases e2)⟩⟩
  refine iter_rng (n := ps.length) (m₀ := m₀) (news := [(Dp, W.listOf #[] 0), (51, tabObj #[])]) (fun i m nx => ∃ (pv : List Value) (e : Nat) (objs : List (Addr × Obj)), pv.length = i ∧ AllNe Dp objs ∧ AllNe 51 objs ∧
      (∀ j, j < i → ∃ t ta tb, pv[j]? = some (.ref t) ∧ (t, tup2 (.int (divAt ps j).1 ta) (.int (divAt ps j).2 tb)) ∈ objs) ∧
      ((i = 0 ∧ objs = [] ∧ nx = [(Dp, lstObj pv e), (51, tabObj #[])]) ∨ ∃ (c : Addr) (oc : Obj) (us : Array Value) (uq : Tok), nx = (Dp, lstObj pv e) :: (51, tab51 c) :: (c, oc) :: objs ∧ oc.data = .fields us ∧ us[1]? = some (.str q51 uq) ∧ AllNe c [(Dp, lstObj pv e), (51, tabObj #[])]) ∧
      ∀ z, z ≠ Str.ofString "k" → [Str.ofString "a", Str.ofString "b", Str.ofString "x", Str.ofString "y", Str.ofString "c", Str.ofString "d"].contains z = false → m z = m₀ z) rfl hR ?hsm ?hrs ?F ?N ?hj ?turn ?done
  case hsm => exact small_my (by omega) (by omega) (by omega)
  case hrs => rw [rangeSize_nat]; omega
  case F => exact F2
  case N => exact N2
  case hj => exact ⟨[], 0, [], rfl, trivial, trivial, (fun j hj => absurd hj (Nat.not_lt_zero _)), .inl ⟨rfl, rfl, rfl⟩, fun _ _ _ => rfl⟩
  case turn =>
    rintro I i t m₁ nx h5 tk5 oI hi ⟨pv, e, objs, hpl, hoD, ho5, hpv, hnx, hm⟩ hne5 F5 N5
    rw [map_stored hm, hm₀] at F5
    simp only [Int.zero_add] at F5
    have hp1 := prev_ix hi
    have hn1 := next_ix hi
    have hk1 : ((i : Int) - 1 = (prevI ps.length i : Int)) ∨ ((i : Int) - 1 = (prevI ps.length i : Int) - (vs.length : Int)) := by rw [hvl]; exact hp1.2
    have hk2 : (i : Int) = (i : Int) ∨ (i : Int) = (i : Int) - (vs.length : Int) := .inl rfl
    have hk3 : ((i : Int) + 1).fmod (ps.length : Int) = (nextI ps.length i : Int) ∨ ((i : Int) + 1).fmod (ps.length : Int) = (nextI ps.length i : Int) - (vs.length : Int) := .inl hn1.2
    obtain ⟨tp, ta1, tb1, hx1, ho1⟩ := hPd.at hp1.1
    obtain ⟨tc, ta2, tb2, hx2, ho2⟩ := hPd.at hi
    obtain ⟨tn, ta3, tb3, hx3, ho3⟩ := hPd.at hn1.1
    have q1 := hbd _ (getD_mem hp1.1)
    have q2 := hbd _ (getD_mem hi)
    have q3 := hbd _ (getD_mem hn1.1)
    have hpvl : pv.length ≤ 32800 := by omega
    rcases hnx with ⟨hi0, rfl, rfl⟩ | ⟨c, oc, us, uq, rfl, hdt, hus, hcn⟩
    · dsimp only [AllNe] at hne5
      walk_at "my steps"
      dsimp only
      k_dflt (refine' unpack_base ?F ?N ho1 ?hh ?hn ?hst ?_; (case F => k_asm); (case N => k_asm); (case hh => rfl); (case hn => rfl); (case hst => rfl))
      intro h6 F6 N6
      k_sweep
      walk_at "my steps"
      dsimp only
      k_dflt (refine' unpack_base ?F ?N ho2 ?hh ?hn ?hst ?_; (case F => k_asm); (case N => k_asm); (case hh => rfl); (case hn => rfl); (case hst => rfl))
      intro h6 F6 N6
      k_sweep
      walk_at "my steps"
      dsimp only
      k_dflt (refine' unpack_base ?F ?N ho3 ?hh ?hn ?hst ?_; (case F => k_asm); (case N => k_asm); (case hh => rfl); (case hn => rfl); (case hst => rfl))
      intro h6 F6 N6
      k_sweep
      walk_at "my steps"
      · first | (have hq := divAt_eq (ps := ps) (i := i) (by assumption)) | (have hq := divAt_ne (ps := ps) (i := i) (by assumption))
        k_dflt (refine' idm_led (ps := #[]) (idm_call w _ _ ?ha ?hb0 ?hb) G sg ?hd ?F ?N f44 ?U ?hps ?_ ?_; (case hd => (show dp + 1 < 400; omega)); (case F => k_asm); (case N => k_asm); (case U => k_updF); (case hps => exact .inl rfl); (case ha => omega); (case hb0 => omega); (case hb => omega))
        · intro h; exact absurd rfl h
        intro _ D8 h8 tk8 t1 t2 c oc us uq F8 N8 l8 l9 hdt hus
        dsimp only [AllNe] at l8 l9 N8
        walk_at "my steps"
        rename News _ _ _ _ => N10
        rename Fr _ _ _ _ => F10
        simp only [List.push_toArray] at N10
        refine led_end ((Dp, lstObj (pv ++ [_]) (e + 1)) :: (51, tab51 c) :: (c, oc) :: [(D8, tup2 (.int _ t1) (.int _ t2))]) F10 N10 (by walk_at "my sub") ⟨hne5.1, hne5.2.1, neN (by dsimp only; walk_at "my kn"), neN (by dsimp only; walk_at "my kn"), trivial⟩ ?_
        refine ⟨pv ++ [_], e + 1, [(D8, tup2 (.int _ t1) (.int _ t2))], by simp [hpl], ⟨neN (by dsimp only; walk_at "my kn"), trivial⟩, ⟨neN (by dsimp only; walk_at "my kn"), trivial⟩, pairs_snoc hpl hpv hq, .inr ⟨c, oc, us, uq, rfl, hdt, hus, ⟨neN (by dsimp only; walk_at "my kn"), neN (by dsimp only; walk_at "my kn"), trivial⟩⟩, fun z z1 z2 => ?_⟩
        have z3 := z2
        simp only [List.contains_cons, Bool.or_eq_false_iff, beq_eq_false_iff_ne] at z3
        rw [hm₀]; dsimp only; simp only [z1, z2, z3, if_false, Bool.false_eq_true]
      · first | (have hq := divAt_eq (ps := ps) (i := i) (by assumption)) | (have hq := divAt_ne (ps := ps) (i := i) (by assumption))
        k_dflt (refine' idm_led (ps := #[]) (idm_call w _ _ ?ha ?hb0 ?hb) G sg ?hd ?F ?N f44 ?U ?hps ?_ ?_; (case hd => (show dp + 1 < 400; omega)); (case F => k_asm); (case N => k_asm); (case U => k_updF); (case hps => exact .inl rfl); (case ha => omega); (case hb0 => omega); (case hb => omega))
        · intro h; exact absurd rfl h
        intro _ D8 h8 tk8 t1 t2 c oc us uq F8 N8 l8 l9 hdt hus
        dsimp only [AllNe] at l8 l9 N8
        walk_at "my steps"
        rename News _ _ _ _ => N10
        rename Fr _ _ _ _ => F10
        simp only [List.push_toArray] at N10
        refine led_end ((Dp, lstObj (pv ++ [_]) (e + 1)) :: (51, tab51 c) :: (c, oc) :: [(D8, tup2 (.int _ t1) (.int _ t2))]) F10 N10 (by walk_at "my sub") ⟨hne5.1, hne5.2.1, neN (by dsimp only; walk_at "my kn"), neN (by dsimp only; walk_at "my kn"), trivial⟩ ?_
        refine ⟨pv ++ [_], e + 1, [(D8, tup2 (.int _ t1) (.int _ t2))], by simp [hpl], ⟨neN (by dsimp only; walk_at "my kn"), trivial⟩, ⟨neN (by dsimp only; walk_at "my kn"), trivial⟩, pairs_snoc hpl hpv hq, .inr ⟨c, oc, us, uq, rfl, hdt, hus, ⟨neN (by dsimp only; walk_at "my kn"), neN (by dsimp only; walk_at "my kn"), trivial⟩⟩, fun z z1 z2 => ?_⟩
        have z3 := z2
        simp only [List.contains_cons, Bool.or_eq_false_iff, beq_eq_false_iff_ne] at z3
        rw [hm₀]; dsimp only; simp only [z1, z2, z3, if_false, Bool.false_eq_true]
    · dsimp only [AllNe] at hne5 hcn
      walk_at "my steps"
      dsimp only
      k_dflt (refine' unpack_base ?F ?N ho1 ?hh ?hn ?hst ?_; (case F => k_asm); (case N => k_asm); (case hh => rfl); (case hn => rfl); (case hst => rfl))
      intro h6 F6 N6
      k_sweep
      walk_at "my steps"
      dsimp only
      k_dflt (refine' unpack_base ?F ?N ho2 ?hh ?hn ?hst ?_; (case F => k_asm); (case N => k_asm); (case hh => rfl); (case hn => rfl); (case hst => rfl))
      intro h6 F6 N6
      k_sweep
      walk_at "my steps"
      dsimp only
      k_dflt (refine' unpack_base ?F ?N ho3 ?hh ?hn ?hst ?_; (case F => k_asm); (case N => k_asm); (case hh => rfl); (case hn => rfl); (case hst => rfl))
      intro h6 F6 N6
      k_sweep
      walk_at "my steps"
      · first | (have hq := divAt_eq (ps := ps) (i := i) (by assumption)) | (have hq := divAt_ne (ps := ps) (i := i) (by assumption))
        k_dflt (refine' idm_led (ps := #[rawInt 88, rawInt 4, .ref c]) (idm_call w _ _ ?ha ?hb0 ?hb) G sg ?hd ?F ?N f44 ?U ?hps ?_ ?_; (case hd => (show dp + 1 < 400; omega)); (case F => k_asm); (case N => k_asm); (case U => k_updF); (case hps => exact .inr ⟨c, rfl, c, oc, us, uq, rfl, News.get (by k_asm) (by k_mem), hdt, hus⟩); (case ha => omega); (case hb0 => omega); (case hb => omega))
        rotate_left
        · intro h; exact absurd h (by simp)
        intro _ D8 h8 tk8 t1 t2 F8 N8 l8
        dsimp only [AllNe] at l8
        walk_at "my steps"
        rename News _ _ _ _ => N10
        rename Fr _ _ _ _ => F10
        simp only [List.push_toArray] at N10
        refine led_end ((Dp, lstObj (pv ++ [_]) (e + 1)) :: (51, tab51 c) :: (c, oc) :: (D8, tup2 (.int _ t1) (.int _ t2)) :: objs) F10 N10 (by (repeat (refine List.forall_mem_cons.mpr ⟨by k_mem, ?_⟩)); intro p hp; (repeat (first | exact hp | refine List.Mem.tail _ ?_))) ⟨hne5.1, hne5.2.1, hne5.2.2.1, neN (by dsimp only; walk_at "my kn"), hne5.2.2.2⟩ ?_
        refine ⟨pv ++ [_], e + 1, (D8, tup2 (.int _ t1) (.int _ t2)) :: objs, by simp [hpl], ⟨neN (by dsimp only; walk_at "my kn"), hoD⟩, ⟨neN (by dsimp only; walk_at "my kn"), ho5⟩, pairs_snoc hpl hpv hq, .inr ⟨c, oc, us, uq, rfl, hdt, hus, hcn⟩, fun z z1 z2 => ?_⟩
        have z3 := z2
        simp only [List.contains_cons, Bool.or_eq_false_iff, beq_eq_false_iff_ne] at z3
        rw [hm₀]; dsimp only; simp only [z1, z2, z3, if_false, Bool.false_eq_true]
      · first | (have hq := divAt_eq (ps := ps) (i := i) (by assumption)) | (have hq := divAt_ne (ps := ps) (i := i) (by assumption))
        k_dflt (refine' idm_led (ps := #[rawInt 88, rawInt 4, .ref c]) (idm_call w _ _ ?ha ?hb0 ?hb) G sg ?hd ?F ?N f44 ?U ?hps ?_ ?_; (case hd => (show dp + 1 < 400; omega)); (case F => k_asm); (case N => k_asm); (case U => k_updF); (case hps => exact .inr ⟨c, rfl, c, oc, us, uq, rfl, News.get (by k_asm) (by k_mem), hdt, hus⟩); (case ha => omega); (case hb0 => omega); (case hb => omega))
        rotate_left
        · intro h; exact absurd h (by simp)
        intro _ D8 h8 tk8 t1 t2 F8 N8 l8
        dsimp only [AllNe] at l8
        walk_at "my steps"
        rename News _ _ _ _ => N10
        rename Fr _ _ _ _ => F10
        simp only [List.push_toArray] at N10
        refine led_end ((Dp, lstObj (pv ++ [_]) (e + 1)) :: (51, tab51 c) :: (c, oc) :: (D8, tup2 (.int _ t1) (.int _ t2)) :: objs) F10 N10 (by (repeat (refine List.forall_mem_cons.mpr ⟨by k_mem, ?_⟩)); intro p hp; (repeat (first | exact hp | refine List.Mem.tail _ ?_))) ⟨hne5.1, hne5.2.1, hne5.2.2.1, neN (by dsimp only; walk_at "my kn"), hne5.2.2.2⟩ ?_
        refine ⟨pv ++ [_], e + 1, (D8, tup2 (.int _ t1) (.int _ t2)) :: objs, by simp [hpl], ⟨neN (by dsimp only; walk_at "my kn"), hoD⟩, ⟨neN (by dsimp only; walk_at "my kn"), ho5⟩, pairs_snoc hpl hpv hq, .inr ⟨c, oc, us, uq, rfl, hdt, hus, hcn⟩, fun z z1 z2 => ?_⟩
        have z3 := z2
        simp only [List.contains_cons, Bool.or_eq_false_iff, beq_eq_false_iff_ne] at z3
        rw [hm₀]; dsimp only; simp only [z1, z2, z3, if_false, Bool.false_eq_true]
  case done =>
    rintro m₁ nx h5 tk5 ⟨pv, e, objs, hpl, hoD, ho5, hpv, hnx, hm⟩ F5 N5
    rcases hnx with ⟨h0, -⟩ | ⟨c, oc, us, uq, rfl, hdt, hus, hcn⟩
    · exact absurd (List.eq_nil_of_length_eq_zero h0) hne
    dsimp only [AllNe] at hcn
    rw [map_self (Str.ofString "k") m₁, map_stored hm, hm₀] at F5
    generalize m₁ (Str.ofString "k") = ku at F5
    walk_at "my steps"
    all_goals (walk_at "my end")
    rename News _ _ _ _ => N10
    rename Fr _ _ _ _ => F10
    have hpa : PtsAre _ pv ((List.range ps.length).map (divAt ps)) := ⟨by simp [hpl], fun j hj => by
      have hj' : j < ps.length := by simpa using hj
      obtain ⟨t, ta, tb, e1, e2⟩ := hpv j hj'
      refine ⟨t, ta, tb, e1, ?_⟩
      have := (N10 _ (.tail _ (.tail _ (.tail _ e2)))).1
      simpa using this⟩
    refine hret Dp _ _ pv e c oc us uq (keep_but F10) (News.get N10 (by k_mem)) (fresh_hide (News.fresh N10 (o := oc) (by k_mem)) (neN (by walk_at "my kn"))) (News.get N10 (by k_mem)) hdt hus (fresh_hide (News.fresh N10 (List.Mem.head _)) (neN (by walk_at "my kn"))) (News.get N10 (List.Mem.head _)) hpa fun j hj => ?_
    obtain ⟨t, ta, tb, e1, e2⟩ := hpv j hj
    exact ⟨t, e1, fresh_hide (N10 _ (.tail _ (.tail _ (.tail _ e2)))).2.2 (allNe_mem ho5 _ e2), allNe_mem hoD _ e2⟩
end
section
open PySem PySem.W PyProof.Rows PySem.Calls PySem.Spec
open PyProof.Rows.LCg
set_option Elab.async false
set_option maxRecDepth 100000
set_option maxHeartbeats 1000000
section
theorem allInts_pick {its : Array Value} {lo hi st : Option Int} (h : AllInts its) : AllInts (slicePick its lo hi st) := by
  intro v hv
  unfold slicePick at hv
  rw [List.mem_toArray] at hv
  obtain ⟨i, _, hi⟩ := List.mem_filterMap.mp hv
  exact h v (Array.mem_of_getElem? hi)
section
variable {prog : Program} {w : World} {A : Around} {E : Value → Shared → Prop} {s : Shared} {h₀ : Heap} {L l : Addr} {m : Str → Option Value} {news : List (Addr × Obj)} {Q : Value → Shared → Prop}
theorem sum_some {items : Array Value} (hh : A.handled = none) (F : Fr h₀ L s.heap m) (N : News h₀ L s.heap news) (hl : s.heap.IsList l items) (hall : AllInts items)
    (h : ∀ z h' tk t, Fr h₀ L h' m → News h₀ L h' news → Q (.int z t) { s with heap := h', toks := tk }) : wpAny (model prog w) A (call (.builtin "sum") [.ref l]) Q E s := by
  obtain ⟨xs, rfl⟩ := hall.items
  exact sum_intListG hh hl fun h' tk t' hk => h _ h' tk t' (F.keeps hk) (N.grown hk)
theorem sum_list_my {vs : List Value} {ns : List Int} (hh : A.handled = none) (F : Fr h₀ L s.heap m) (N : News h₀ L s.heap news) (hl : s.heap.IsList l vs.toArray) (hI : IntsAre vs ns)
    (h : ∀ h' tk t, Fr h₀ L h' m → News h₀ L h' news → Q (.int ns.sum t) { s with heap := h', toks := tk }) : wpAny (model prog w) A (call (.builtin "sum") [.ref l]) Q E s := by
  obtain ⟨xs, hx⟩ := hI.allInts.items
  have e : ns = (numsOf vs.toArray.toList) := by rw [show vs.toArray.toList = vs from rfl, hI.numsOf]
  rw [hx] at hl e
  rw [nums_intItems] at e
  refine sum_intListG hh hl fun h' tk t' hk => ?_
  have := h h' tk t' (F.keeps hk) (N.grown hk)
  rw [preSum_eq, List.take_of_length_le (by simp), ← e]; exact this
end
theorem drawn_ok (n z : Int) : -4 ≤ (n + z).fmod 12 - 4 ∧ (n + z).fmod 12 - 4 ≤ 7 := by
  have h1 := Int.fmod_nonneg_of_pos (n + z) (show (0 : Int) < 12 by decide)
  have h2 := Int.fmod_lt_of_pos (n + z) (show (0 : Int) < 12 by decide)
  omega
section
variable {w : World} {loose : List Str} {mean : ExcName → Option Value} {mg mb : Str → Option Value} {dp un : Nat} {fr : Option (List Env)} {gd : Option (List Code)} {s : Shared} {Q E : Value → Shared → Prop}
  {g₀ h₀ : Heap} {L d : Addr} {m : Str → Option Value} {news : List (Addr × Obj)} {vs : List Value} {ns : List Int}
theorem back_use (X : (Mine.hk.heap_1 w.params).In h₀) (T : Top topProg loose mean mg mb h₀) (hd : dp < 900) (hu : un < 900) (F : Fr h₀ L s.heap m) (N : News h₀ L s.heap news)
    (hL : s.heap.IsList d vs.toArray) (hI : IntsAre vs ns) (hn : ns.length = 5) (hq : ∀ q ∈ ns, -4 ≤ q ∧ q ≤ 7)
    (h : ∀ D h' tk rs e row, Fr h₀ L h' m → News h₀ L h' ((D, lstObj rs e) :: news) → AllNe D news → IntsAre rs row → Ring row → Q (.ref D) { s with heap := h', toks := tk }) :
    wpAny (model PySem.Challenge.rw_rl0058_01.row.prog w) (AA dp fr gd un) (call (.ref 84) [.ref d]) Q E s :=
  back_call w loose mean mg mb dp un fr gd s Q E (X.keeps F.keep) (T.keeps F.keep) hd hu d vs ns hL hI hn hq fun D h' tk' e rs row hk ho hI' hR hD =>
    have z := news_new F N hk hD ho
    h D h' tk' rs e row (F.keeps hk) z.1 z.2 hI' hR
theorem parts_use {grey : Int} {tg : Tok} (X : (Mine.hk.heap_1 w.params).In h₀) (T : Top topProg loose mean mg mb h₀) (hd : dp < 900) (F : Fr h₀ L s.heap m) (N : News h₀ L s.heap news)
    (hL : s.heap.IsList d vs.toArray) (hI : IntsAre vs ns) (hR : Ring ns)
    (h : ∀ D h' tk rs e, Fr h₀ L h' m → News h₀ L h' ((D, lstObj rs e) :: news) → AllNe D news → IntsAre rs (partsOf grey ns) → Q (.ref D) { s with heap := h', toks := tk }) :
    wpAny (model PySem.Challenge.rw_rl0058_01.row.prog w) (AA dp fr gd un) (call (.ref 91) [.ref d, .int grey tg]) Q E s :=
  parts_call w loose mean mg mb dp un fr gd s Q E (X.keeps F.keep) (T.keeps F.keep) hd d vs ns hL hI hR hR.short grey tg fun D h' tk' e rs hk ho hI' hD =>
    have z := news_new F N hk hD ho
    h D h' tk' rs e (F.keeps hk) z.1 z.2 hI'
theorem rgb_use {r g b : Int} {tr tg tb : Tok} (X : (Mine.hk.heap_1 w.params).In h₀) (T : Top topProg loose mean mg mb h₀) (hd : dp < 900) (F : Fr h₀ L s.heap m) (N : News h₀ L s.heap news)
    (hr : 0 ≤ r ∧ r < 1048576) (hg : 0 ≤ g ∧ g < 1048576) (hb : 0 ≤ b ∧ b < 1048576) (hne : min3 r g b < max3 r g b) (hm0 : 0 ≤ min3 r g b) (hm1 : max3 r g b < 1048576)
    (h : ∀ D h' tk t1 t2 t3, Fr h₀ L h' m → News h₀ L h' ((D, tup3 (.float (hueF r g b) t1) (.float (satF r g b) t2) (.int (max3 r g b) t3)) :: news) → AllNe D news → Q (.ref D) { s with heap := h', toks := tk }) :
    wpAny (model PySem.Challenge.rw_rl0058_01.row.prog w) (AA dp fr gd un) (call (.ref 21) [.int r tr, .int g tg, .int b tb]) Q E s :=
  rgb_call w loose mean mg mb dp un fr gd s Q E (X.keeps F.keep) (T.keeps F.keep) hd r g b tr tg tb hr hg hb hne hm0 hm1 fun D h' tk' t1 t2 t3 hk hD ho =>
    have z := news_new F N hk hD ho
    h D h' tk' t1 t2 t3 (F.keeps hk) z.1 z.2
theorem h2r_use {a b : UInt64} {v : Int} {ta tb tv : Tok} (X : (Mine.hk.heap_1 w.params).In h₀) (T : Top topProg loose mean mg mb h₀) (hd : dp < 900) (F : Fr h₀ L s.heap m) (N : News h₀ L s.heap news)
    (hv : 0 ≤ v ∧ v < 1048576) (hfa : Float64.isFinite a = true) (hfb : Float64.isFinite b = true) (hf6 : Float64.isFinite (Float64.mul a 4618441417868443648) = true) (hb0 : (Float64.cmp b 0 == some .eq) = false) (hi : (iF a).natAbs < 1000)
    (h : ∀ D h' tk t1 t2 t3, Fr h₀ L h' m → News h₀ L h' ((D, tup3 (numV (h2r a b v).1 t1) (numV (h2r a b v).2.1 t2) (numV (h2r a b v).2.2 t3)) :: news) → AllNe D news → Q (.ref D) { s with heap := h', toks := tk }) :
    wpAny (model PySem.Challenge.rw_rl0058_01.row.prog w) (AA dp fr gd un) (call (.ref 28) [.float a ta, .float b tb, .int v tv]) Q E s :=
  h2r_call w loose mean mg mb dp un fr gd s Q E (X.keeps F.keep) (T.keeps F.keep) hd a b v ta tb tv hv hfa hfb hf6 hb0 hi fun D h' tk' t1 t2 t3 hk hD ho =>
    have z := news_new F N hk hD ho
    h D h' tk' t1 t2 t3 (F.keeps hk) z.1 z.2
end
end
end
section
open PySem PySem.W PyProof.Rows PySem.Calls PySem.Spec
open PyProof.Rows.LCg
set_option Elab.async false
set_option maxRecDepth 100000
set_option maxHeartbeats 1000000
section
theorem drop_take_len (l : List Int) : (l.drop (l.length - 1) ++ l.take (l.length - 1)).length = l.length := by
  rw [List.length_append, List.length_drop, List.length_take, Nat.min_eq_left (Nat.sub_le _ _)]; exact Nat.sub_add_cancel (Nat.sub_le _ _)
section
variable {w : World} {loose : List Str} {mean : ExcName → Option Value} {mg mb : Str → Option Value} {dp un : Nat} {fr : Option (List Env)} {gd : Option (List Code)} {s : Shared} {Q E : Value → Shared → Prop}
  {h₀ : Heap} {L d : Addr} {m : Str → Option Value} {news : List (Addr × Obj)} {vs : List Value} {ns : List Int}
theorem fresh_led {h : Heap} {D : Addr} (F : Fr h₀ L h m) (N : News h₀ L h news) (hD : h.get? D = none) : (D ≠ L ∧ h₀.get? D = none) ∧ AllNe D news := by
  refine ⟨⟨fun e => ?_, ?_⟩, allNe_of fun p hp e => ?_⟩
  · obtain ⟨ol, _, _, e2, _⟩ := F.ns
    rw [← e, hD] at e2; cases e2
  · cases e : h₀.get? D with
    | none => rfl
    | some o' => have := F.keep D o' e; rw [hD] at this; cases this
  · have := (N p hp).1; rw [e, hD] at this; cases this
theorem read_use {env0 : Env} {g : Obj → List (Addr × Obj)} (G : Gd w loose mean mg mb h₀) (hd : dp < 600) (F : Fr h₀ L s.heap m) (N : News h₀ L s.heap news) (U : UpdF 44 (tabObj #[]) news g)
    (hf0 : env0.frame = some L) (hk0 : env0.scope.kind ≠ .module) (hL : s.heap.IsList d vs.toArray) (hI : IntsAre vs ns) (hnn : ∀ p ∈ ns, 0 ≤ p ∧ p < 1048576) (hlen : ns.length ≤ 100000) (hne : ns ≠ [])
    (h : ∀ D h' tk rs e c oc us uq, Fr h₀ L h' m → News h₀ L h' ((D, lstObj rs e) :: (c, oc) :: g (tab44 c)) → AllNe D news → AllNe c news → oc.data = .fields us → us[1]? = some (.str q44 uq) → IntsAre rs ns → Q (.ref D) { s with heap := h', toks := tk }) :
    wpAny (model PySem.Challenge.rw_rl0058_01.row.prog w) (AA dp (some [env0]) gd un) (call (.ref 96) [.ref d]) Q E s := by
  obtain ⟨pre, post, hl, hg, q1, q2⟩ := U.split
  have N' : News h₀ L s.heap (pre ++ (44, tabObj #[]) :: post) := hl ▸ N
  have z := N' (44, tabObj #[]) (List.mem_append_right _ (.head _))
  obtain ⟨oL, es, ep, eL, dL, kL, fL⟩ := id F.ns
  have g0 : h₀.get? L = none := Heap.get?_none_of_le F.above
  refine read_call w loose mean mg mb dp un env0 gd s Q E h₀ G F.keep hd L oL hf0 hk0 eL (fun vs q => by rw [dL] at q; cases q) g0 z.1 d vs ns hL hI hnn hlen hne (fun q => ?_) fun D h' tk' rs e c oc us uq hk hL' h44 hc hoc hdt hu hD ho hI' => ?_
  · obtain ⟨o, e, hc, n, hdd⟩ := hL
    rw [q, eL] at e; cases e; rw [dL] at hdd; cases hdd
  · have kk : ∀ b o, h₀.get? b = some o → h'.get? b = some o := fun b o e => hk b o (fun q => by rw [q, z.2.2] at e; cases e) (fun q => by rw [q, g0] at e; cases e) (F.keep b o e)
    obtain ⟨sl, hsl⟩ := hL'
    have F' : Fr h₀ L h' m := ⟨⟨_, es, ep, hsl, dL, kL, fL⟩, kk, F.above⟩
    have nD := fresh_led F N hD
    have nc := fresh_led F N hc
    refine h D h' tk' rs e c oc us uq F' (fun p hp => ?_) nD.2 nc.2 hdt hu hI'
    rcases List.mem_cons.mp hp with rfl | hp
    · exact ⟨ho, nD.1⟩
    rcases List.mem_cons.mp hp with rfl | hp
    · exact ⟨hoc, nc.1⟩
    rw [hg] at hp
    rcases List.mem_append.mp hp with q | q
    · have P := N' p (List.mem_append_left _ q); exact ⟨hk _ _ (q1 p q) P.2.1 P.1, P.2⟩
    rcases List.mem_cons.mp q with rfl | q
    · exact ⟨h44, z.2⟩
    · have P := N' p (List.mem_append_right _ (.tail _ q)); exact ⟨hk _ _ (q2 p q) P.2.1 P.1, P.2⟩
theorem div_use {ps : List (Int × Int)} {g : Obj → List (Addr × Obj)} (G : Gd w loose mean mg mb h₀) (hd : dp < 350) (F : Fr h₀ L s.heap m) (N : News h₀ L s.heap news) (U : UpdF 51 (tabObj #[]) news g) (hf : Full44 s.heap)
    (hL : s.heap.IsList d vs.toArray) (hP : PtsAre s.heap vs ps) (hlen : ps.length ≤ 32800) (hne : ps ≠ [])
    (hbd : ∀ p ∈ ps, -32768 ≤ p.1 ∧ p.1 ≤ 32768 ∧ -32768 ≤ p.2 ∧ p.2 ≤ 32768 ∧ ¬ (p.1 = 0 ∧ p.2 = 0))
    (h : ∀ D h' tk rs e c oc us uq objs, Fr h₀ L h' m → News h₀ L h' ((D, lstObj rs e) :: (c, oc) :: (g (tab51 c) ++ objs)) → AllNe D news → AllNe c news → oc.data = .fields us → us[1]? = some (.str q51 uq) → rs.length = ps.length →
      (∀ j, j < ps.length → ∃ t ta tb, rs[j]? = some (.ref t) ∧ (t, tup2 (.int (divAt ps j).1 ta) (.int (divAt ps j).2 tb)) ∈ objs) → Q (.ref D) { s with heap := h', toks := tk }) :
    wpAny (model PySem.Challenge.rw_rl0058_01.row.prog w) (AA dp fr gd un) (call (.ref 103) [.ref d]) Q E s := by
  obtain ⟨pre, post, hl, hg, q1, q2⟩ := U.split
  have N' : News h₀ L s.heap (pre ++ (51, tabObj #[]) :: post) := hl ▸ N
  have z := N' (51, tabObj #[]) (List.mem_append_right _ (.head _))
  refine div_call w loose mean mg mb dp un fr gd s Q E h₀ G F.keep hd hf z.1 d vs ps hL hP hlen hne hbd fun D h' tk' rs e c oc us uq hk h51 hc hoc hdt hu hD ho hR hfr => ?_
  have F' : Fr h₀ L h' m := ⟨F.ns.at' fun o e => hk _ o z.2.1.symm e, fun b o e => hk b o (fun q => by rw [q, z.2.2] at e; cases e) (F.keep b o e), F.above⟩
  have nD := fresh_led F N hD
  have nc := fresh_led F N hc
  have hlr : rs.length = ps.length := by rw [hR.1]; simp
  refine h D h' tk' rs e c oc us uq (rs.filterMap fun v => match v with | .ref t => (h'.get? t).map fun o => (t, o) | _ => none) F' (fun p hp => ?_) nD.2 nc.2 hdt hu hlr fun j hj => ?_
  · rcases List.mem_cons.mp hp with rfl | hp
    · exact ⟨ho, nD.1⟩
    rcases List.mem_cons.mp hp with rfl | hp
    · exact ⟨hoc, nc.1⟩
    rw [hg] at hp
    rcases List.mem_append.mp hp with hp | hp
    · rcases List.mem_append.mp hp with q | q
      · have P := N' p (List.mem_append_left _ q); exact ⟨hk _ _ (q1 p q) P.1, P.2⟩
      rcases List.mem_cons.mp q with rfl | q
      · exact ⟨h51, z.2⟩
      · have P := N' p (List.mem_append_right _ (.tail _ q)); exact ⟨hk _ _ (q2 p q) P.1, P.2⟩
    · obtain ⟨v, hv, hv2⟩ := List.mem_filterMap.mp hp
      obtain ⟨j, hj, rfl⟩ := List.mem_iff_getElem.mp hv
      obtain ⟨t, ht, hf0, -⟩ := hfr j (hlr ▸ hj)
      rw [List.getElem?_eq_getElem hj] at ht
      rw [Option.some.inj ht] at hv2
      obtain ⟨o, ho', rfl⟩ := Option.map_eq_some_iff.mp hv2
      exact ⟨ho', (fresh_led F N hf0).1⟩
  · obtain ⟨t, ta, tb, h1, h2⟩ := hR.2 j (by simpa using hj)
    refine ⟨t, ta, tb, h1, List.mem_filterMap.mpr ⟨.ref t, List.mem_of_getElem? h1, ?_⟩⟩
    simp only [List.getElem_map, List.getElem_range] at h2
    simp only [h2, Option.map_some]
end
end
end
section
/-! comprehensions: any new things -/
open PySem PySem.W PyProof.Rows PySem.Calls PySem.Spec
open PyProof.Rows.LCg
set_option Elab.async false
set_option maxRecDepth 100000
set_option maxHeartbeats 1000000
section
theorem somes_of : ∀ {yos : List (Option Value)}, (∀ (j : Nat) (yo : Option Value), yos[j]? = some yo → ∃ y, yo = some y) → ∃ ys, yos = ys.map some ∧ yos.filterMap id = ys
  | [], _ => ⟨[], rfl, rfl⟩
  | yo :: r, h => by
    obtain ⟨y, rfl⟩ := h 0 yo rfl
    obtain ⟨ys, e1, e2⟩ := somes_of (yos := r) fun j yo hj => h (j + 1) yo (by simpa using hj)
    exact ⟨y :: ys, by rw [e1]; rfl, by show y :: r.filterMap id = y :: ys; rw [e2]⟩
/-- behind an element that leaves one new object -/
theorem gend_one {h₀ h' : Heap} {L I C D Ds : Addr} {m : Str → Option Value} {o oI oC oD : Obj} {rest : List (Addr × Obj)} {R : Option Value → List (Addr × Obj) → Prop} {yo : Option Value} {s' : Shared} {tk : Nat}
    (F : Fr h₀ L h' m) (N : News h₀ L h' ((Ds, o) :: (I, oI) :: (C, oC) :: (D, oD) :: rest)) (hn : AllNe Ds ((I, oI) :: (C, oC) :: (D, oD) :: rest)) (hR : R yo [(Ds, o)]) :
    GEnd h₀ L m ((I, oI) :: (C, oC) :: (D, oD) :: rest) I C D R yo s' { s' with heap := h', toks := tk } :=
  GEnd.intro [(Ds, o)] F N (fun p hp => hp) (Off3.of fun p hp => by
    rw [List.mem_singleton.mp hp]
    exact ⟨(allNe_mem hn _ (.head _)).symm, (allNe_mem hn _ (.tail _ (.head _))).symm, (allNe_mem hn _ (.tail _ (.tail _ (.head _)))).symm⟩) hR
/-- behind an element that leaves nothing new -/
theorem gend_nil {h₀ h' : Heap} {L I C D : Addr} {m : Str → Option Value} {led : List (Addr × Obj)} {R : Option Value → List (Addr × Obj) → Prop} {yo : Option Value} {s' : Shared} {tk : Nat}
    (F : Fr h₀ L h' m) (N : News h₀ L h' led) (hR : R yo []) : GEnd h₀ L m led I C D R yo s' { s' with heap := h', toks := tk } :=
  GEnd.intro [] F N (fun p hp => hp) trivial hR
section
variable {prog : Program} {w : World} {A : Around} {E : Value → Shared → Prop} {h₀ : Heap} {L : Addr} {m : Str → Option Value} {env : Env} {elt target : Expr} {x : Str} {px : Pos} {scope : Scope} {cl : List (Str × Addr)} {news : List (Addr × Obj)} {mf : Addr → Str → Option Value} {K : Shared → Heap → Nat → Addr → Prop} {s₁ : Shared} {ax : Addr}
theorem fin_any {n : Nat} {R : Nat → Value → List (Addr × Obj) → Prop}
    (fin : ∀ D h tk ys e ex, Fr h₀ L h (mf D) → News h₀ L h ((D, lstObj ys e) :: (news ++ ex)) → AllNe D news → ys.length = n → (∀ (j : Nat) (y : Value), ys[j]? = some y → ∃ e', R j y e' ∧ ∀ p ∈ e', p ∈ ex) → K s₁ h tk D) :
    GFin h₀ L mf news n (fun i yo e => ∃ y, yo = some y ∧ R i y e) (K s₁) := by
  intro D h tk yos ex F' N' o1 hl hG
  obtain ⟨ys, rfl, e2⟩ := somes_of (yos := yos) fun j yo hj => by obtain ⟨e, ⟨y, h1, -⟩, -⟩ := hG j yo hj; exact ⟨y, h1⟩
  rw [e2] at N'
  refine fin D h tk ys ys.length ex F' N' (allNe_left (off1_ne o1)) (by simpa using hl) fun j y hj => ?_
  obtain ⟨e', ⟨y', h1, h2⟩, h3⟩ := hG j (some y) (by rw [List.getElem?_map, hj]; rfl)
  cases h1
  exact ⟨e', h2, h3⟩
theorem elem_any {n : Nat} {Bnd : Nat → (Str → Option Value) → Prop} {R : Nat → Value → List (Addr × Obj) → Prop}
    (elem : ∀ i I oI C oC D ys m₂ ex (s' : Shared) (E' : Value → Shared → Prop), i < n → Bnd i m₂ → NsObj oC m₂ → Fr h₀ L s'.heap m → News h₀ L s'.heap ((I, oI) :: (C, oC) :: (D, lst ys) :: (news ++ ex)) → Off3 I C D news → ((@Ne Nat I C) ∧ (@Ne Nat I D) ∧ (@Ne Nat C D)) →
      wpAny (model prog w) A (eval elt (compEnvC scope cl C env)) (fun y s'' => GEnd h₀ L m ((I, oI) :: (C, oC) :: (D, lst ys) :: (news ++ ex)) I C D (fun _ e => R i y e) none s' s'') E' s') :
    Elem prog w A h₀ L m env elt [] scope cl news n Bnd (fun i yo e => ∃ y, yo = some y ∧ R i y e) := by
  intro i I oI C oC D ys m₂ ex s' E' hi hB hC F' N' off ne
  refine wpAny_tests_nil ?_
  rw [if_pos rfl]
  refine wpAny_mono (elem i I oI C oC D ys m₂ ex s' E' hi hB hC F' N' off ne) (fun y s'' h => ?_) fun _ _ e => e
  obtain ⟨h', tk, e, rfl, x1, x2, x3, x4⟩ := h
  exact ⟨h', tk, e, rfl, x1, x2, x3, y, rfl, x4⟩
theorem srcGL_any {its : Array Value} {Bnd : Nat → (Str → Option Value) → Prop} (R : Nat → Value → List (Addr × Obj) → Prop) (hh : A.handled = none) (F : Fr h₀ L s₁.heap m) (N : News h₀ L s₁.heap news) (S : SrcAt h₀ ax its news) (hsz : its.size ≤ sizeLine)
    (asg : ∀ I, Asg prog w A h₀ L m env target scope cl news its.size (fun i v => its[i]? = some v) I (fun i h => h.IsListIter I ax i ∧ h.IsList ax its) Bnd)
    (elem : ∀ i I oI C oC D ys m₂ ex (s' : Shared) (E' : Value → Shared → Prop), i < its.size → Bnd i m₂ → NsObj oC m₂ → Fr h₀ L s'.heap m → News h₀ L s'.heap ((I, oI) :: (C, oC) :: (D, lst ys) :: (news ++ ex)) → Off3 I C D news → ((@Ne Nat I C) ∧ (@Ne Nat I D) ∧ (@Ne Nat C D)) →
      wpAny (model prog w) A (eval elt (compEnvC scope cl C env)) (fun y s'' => GEnd h₀ L m ((I, oI) :: (C, oC) :: (D, lst ys) :: (news ++ ex)) I C D (fun _ e => R i y e) none s' s'') E' s')
    (fin : ∀ D h tk ys e ex, Fr h₀ L h (mf D) → News h₀ L h ((D, lstObj ys e) :: (news ++ ex)) → AllNe D news → ys.length = its.size → (∀ (j : Nat) (y : Value), ys[j]? = some y → ∃ e', R j y e' ∧ ∀ p ∈ e', p ∈ ex) → K s₁ h tk D) :
    SrcGL prog w A h₀ L m env elt target [] scope cl mf K (.ref ax) s₁ :=
  ⟨ax, its, news, Bnd, _, rfl, hh, F, N, S, hsz, asg, elem_any elem, fin_any fin⟩
theorem srcGR_any {r : Addr} {a b c : Int} {t u v : Tok} {n : Nat} (R : Nat → Value → List (Addr × Obj) → Prop) (hh : A.handled = none) (F : Fr h₀ L s₁.heap m) (N : News h₀ L s₁.heap news) (hr : IsRange s₁.heap r a b c t u v) (hsm : Builtin.Range.small a b c = true)
    (hn : Builtin.Range.rangeSize a b c = ((n : Nat) : Int)) (hsz : n ≤ sizeLine) (hx : scope.names.lookup x = some .local) (hkind : scope.kind = .function)
    (elem : ∀ i (t : Tok) I oI C oC D ys m₂ ex (s' : Shared) (E' : Value → Shared → Prop), i < n → m₂ x = some (.int (a + (i : Int) * c) t) → NsObj oC m₂ → Fr h₀ L s'.heap m → News h₀ L s'.heap ((I, oI) :: (C, oC) :: (D, lst ys) :: (news ++ ex)) → Off3 I C D news → ((@Ne Nat I C) ∧ (@Ne Nat I D) ∧ (@Ne Nat C D)) →
      wpAny (model prog w) A (eval elt (compEnvC scope cl C env)) (fun y s'' => GEnd h₀ L m ((I, oI) :: (C, oC) :: (D, lst ys) :: (news ++ ex)) I C D (fun _ e => R i y e) none s' s'') E' s')
    (fin : ∀ D h tk ys e ex, Fr h₀ L h (mf D) → News h₀ L h ((D, lstObj ys e) :: (news ++ ex)) → AllNe D news → ys.length = n → (∀ (j : Nat) (y : Value), ys[j]? = some y → ∃ e', R j y e' ∧ ∀ p ∈ e', p ∈ ex) → K s₁ h tk D) :
    SrcGR prog w A h₀ L m env elt (.Name x px) [] scope cl mf K (.ref r) s₁ :=
  ⟨r, a, b, c, t, u, v, n, news, _, _, rfl, hh, F, N, hr, hsm, hn, hsz, fun _ _ => asg_name hx hkind,
    elem_any fun i I oI C oC D ys m₂ ex s' E' hi hB => by obtain ⟨_, ⟨t, rfl⟩, hm⟩ := hB; exact elem i t I oI C oC D ys m₂ ex s' E' hi hm, fin_any fin⟩
/-- a range with one test: how many pass -/
theorem srcGR_count {r : Addr} {a b c : Int} {t u v : Tok} {n : Nat} {ifs : List Expr} (P : Nat → Bool) (hh : A.handled = none) (F : Fr h₀ L s₁.heap m) (N : News h₀ L s₁.heap news) (hr : IsRange s₁.heap r a b c t u v) (hsm : Builtin.Range.small a b c = true)
    (hn : Builtin.Range.rangeSize a b c = ((n : Nat) : Int)) (hsz : n ≤ sizeLine) (hx : scope.names.lookup x = some .local) (hkind : scope.kind = .function)
    (elem : ∀ i (t : Tok) I oI C oC D ys m₂ ex (s' : Shared) (E' : Value → Shared → Prop), i < n → m₂ x = some (.int (a + (i : Int) * c) t) → NsObj oC m₂ → Fr h₀ L s'.heap m → News h₀ L s'.heap ((I, oI) :: (C, oC) :: (D, lst ys) :: (news ++ ex)) → Off3 I C D news → ((@Ne Nat I C) ∧ (@Ne Nat I D) ∧ (@Ne Nat C D)) →
      GTurn prog w A ifs elt (compEnvC scope cl C env) (fun yo s'' => yo.isSome = P i ∧ GEnd h₀ L m ((I, oI) :: (C, oC) :: (D, lst ys) :: (news ++ ex)) I C D (fun _ _ => True) none s' s'') E' s')
    (fin : ∀ D h tk ys e ex, Fr h₀ L h (mf D) → News h₀ L h ((D, lstObj ys e) :: (news ++ ex)) → AllNe D news → ys.length = (List.range n).countP P → K s₁ h tk D) :
    SrcGR prog w A h₀ L m env elt (.Name x px) ifs scope cl mf K (.ref r) s₁ := by
  refine ⟨r, a, b, c, t, u, v, n, news, _, fun i yo _ => yo.isSome = P i, rfl, hh, F, N, hr, hsm, hn, hsz, fun _ _ => asg_name hx hkind, ?_, ?_⟩
  · intro i I oI C oC D ys m₂ ex s' E' hi hB hC F' N' off ne
    obtain ⟨_, ⟨t, rfl⟩, hm⟩ := hB
    refine wpAny_mono (elem i t I oI C oC D ys m₂ ex s' E' hi hm hC F' N' off ne) (fun ok s₃ h => ?_) fun _ _ e => e
    cases ok with
    | true =>
      rw [if_pos rfl] at h ⊢
      refine wpAny_mono h (fun y s'' h => ?_) fun _ _ e => e
      obtain ⟨hp, h', tk, e, rfl, x1, x2, x3, -⟩ := h
      exact ⟨h', tk, e, rfl, x1, x2, x3, hp⟩
    | false =>
      rw [if_neg Bool.false_ne_true] at h ⊢
      obtain ⟨hp, h', tk, e, rfl, x1, x2, x3, -⟩ := h
      exact ⟨h', tk, e, rfl, x1, x2, x3, hp⟩
  · intro D h tk yos ex F' N' o1 hl hG
    refine fin D h tk (yos.filterMap id) (yos.filterMap id).length ex F' N' (allNe_left (off1_ne o1)) ?_
    have key : ∀ (l : List (Option Value)) (k : Nat), (∀ (j : Nat) (yo : Option Value), l[j]? = some yo → yo.isSome = P (k + j)) → (l.filterMap id).length = (List.range' k l.length).countP P := by
      intro l
      induction l with
      | nil => intro k _; rfl
      | cons yo r ih =>
        intro k hk
        have h0 := hk 0 yo rfl
        have hr := ih (k + 1) fun j yo' hj => by have := hk (j + 1) yo' (by simpa using hj); rw [this]; congr 1; omega
        rw [List.length_cons, List.range'_succ, List.countP_cons, ← hr]
        cases yo with
        | none => rw [List.filterMap_cons_none rfl]; simp only [Nat.add_zero] at h0; rw [← h0]; simp
        | some y => simp only [Nat.add_zero] at h0; rw [← h0]; rfl
    have := key yos 0 fun j yo hj => by obtain ⟨e, h1, -⟩ := hG j yo hj; rw [h1, Nat.zero_add]
    rw [this, hl, List.range_eq_range']
end
section
variable {prog : Program} {w : World} {A : Around} {h₀ : Heap} {L : Addr} {m : Str → Option Value} {env : Env}
theorem asg_threeW {x y z : Str} {px py pz tp : Pos} {tk : Nat} {scope : Scope} {cl : List (Str × Addr)} {news : List (Addr × Obj)} {n : Nat} {P : Nat → Value → Prop} {I ax : Addr} {its : Array Value} (W : Nat → Value → Value → Value → Prop)
    (hh : A.handled = none) (hx : scope.names.lookup x = some .local) (hy : scope.names.lookup y = some .local) (hz : scope.names.lookup z = some .local) (hxy : x ≠ y) (hxz : x ≠ z) (hyz : y ≠ z) (hkind : scope.kind = .function)
    (hseq : ∀ i v, i < n → P i v → ∃ t a b c, v = .ref t ∧ W i a b c ∧ ∀ h, Fr h₀ L h m → News h₀ L h news → SeqAt h t #[a, b, c]) :
    Asg prog w A h₀ L m env (.Tuple [.Name x px, .Name y py, .Name z pz] tk tp) scope cl news n P I (fun i h => h.IsListIter I ax i ∧ h.IsList ax its)
      (fun i m₂ => ∃ a b c, W i a b c ∧ m₂ x = some a ∧ m₂ y = some b ∧ m₂ z = some c) := by
  intro i v C m' s' E' Q' hi hP hst F N hn k
  obtain ⟨t, a, b, c, rfl, hW, ht⟩ := hseq i v hi hP
  refine wpAny_letOwnedTupleGo_listiter hst.1 ?_
  refine assign_seq hh (ht _ F N) rfl rfl fun h₁ hk₁ => ?_
  refine assignInOrder_cons (wpAny_assign_Name (wpAny_storeName_local (lookup_relabel_local hx) (hn.at' fun o e => hk₁ _ o e) (fun h₂ hn₂ hs₂ => ?_) (by simp [compEnvC, relabel, hkind])))
  refine assignInOrder_cons (wpAny_assign_Name (wpAny_storeName_local (lookup_relabel_local hy) hn₂ (fun h₃ hn₃ hs₃ => ?_) (by simp [compEnvC, relabel, hkind])))
  refine assignInOrder_cons (wpAny_assign_Name (wpAny_storeName_local (lookup_relabel_local hz) hn₃ (fun h₄ hn₄ hs₄ => ?_) (by simp [compEnvC, relabel, hkind])))
  refine assignInOrder_nil ?_
  exact k h₄ _ _ (fun b o hb e => hs₄.extBut b o hb (hs₃.extBut b o hb (hs₂.extBut b o hb (hk₁ b o e)))) hn₄ ⟨a, b, c, hW, by simp [hxy, hxz], by simp [hyz], by simp⟩
theorem asg_twoW {x y : Str} {px py tp : Pos} {tk : Nat} {scope : Scope} {cl : List (Str × Addr)} {news : List (Addr × Obj)} {n : Nat} {P : Nat → Value → Prop} {I ax : Addr} {its : Array Value} (W : Nat → Value → Value → Prop)
    (hh : A.handled = none) (hx : scope.names.lookup x = some .local) (hy : scope.names.lookup y = some .local) (hxy : x ≠ y) (hkind : scope.kind = .function)
    (hseq : ∀ i v, i < n → P i v → ∃ t a b, v = .ref t ∧ W i a b ∧ ∀ h, Fr h₀ L h m → News h₀ L h news → SeqAt h t #[a, b]) :
    Asg prog w A h₀ L m env (.Tuple [.Name x px, .Name y py] tk tp) scope cl news n P I (fun i h => h.IsListIter I ax i ∧ h.IsList ax its)
      (fun i m₂ => ∃ a b, W i a b ∧ m₂ x = some a ∧ m₂ y = some b) := by
  intro i v C m' s' E' Q' hi hP hst F N hn k
  obtain ⟨t, a, b, rfl, hW, ht⟩ := hseq i v hi hP
  refine wpAny_letOwnedTupleGo_listiter hst.1 ?_
  refine assign_seq hh (ht _ F N) rfl rfl fun h₁ hk₁ => ?_
  refine assignInOrder_cons (wpAny_assign_Name (wpAny_storeName_local (lookup_relabel_local hx) (hn.at' fun o e => hk₁ _ o e) (fun h₂ hn₂ hs₂ => ?_) (by simp [compEnvC, relabel, hkind])))
  refine assignInOrder_cons (wpAny_assign_Name (wpAny_storeName_local (lookup_relabel_local hy) hn₂ (fun h₃ hn₃ hs₃ => ?_) (by simp [compEnvC, relabel, hkind])))
  refine assignInOrder_nil ?_
  exact k h₃ _ _ (fun b o hb e => hs₃.extBut b o hb (hs₂.extBut b o hb (hk₁ b o e))) hn₃ ⟨a, b, hW, by simp [hxy], by simp⟩
end
/-- the colours' objects -/
noncomputable def ColObjs (cf : Nat → Int × Int × Int) (n : Nat) (ys : List Value) (ex : List (Addr × Obj)) : Prop :=
  ys.length = n ∧ ∀ (j : Nat) (y : Value), ys[j]? = some y → ∃ D' xs e', y = .ref D' ∧ IntsAre xs [(cf j).1, (cf j).2.1, (cf j).2.2] ∧ (D', lstObj xs e') ∈ ex
theorem ColObjs.seq {cf : Nat → Int × Int × Int} {n : Nat} {ys : List Value} {ex news : List (Addr × Obj)} (H : ColObjs cf n ys ex) (hs : ∀ p ∈ ex, p ∈ news) {h₀ : Heap} {L : Addr} {m : Str → Option Value} (i : Nat) (v : Value) (hv : ys.toArray[i]? = some v) :
    ∃ t a b c, v = .ref t ∧ (∃ t1 t2 t3, a = .int (cf i).1 t1 ∧ b = .int (cf i).2.1 t2 ∧ c = .int (cf i).2.2 t3) ∧ ∀ h, Fr h₀ L h m → News h₀ L h news → SeqAt h t #[a, b, c] := by
  obtain ⟨D', xs, e', rfl, hI, hm⟩ := H.2 i v (by simpa using hv)
  cases hI with
  | cons _ t1 hI => cases hI with
    | cons _ t2 hI => cases hI with
      | cons _ t3 hI => cases hI with
        | nil => exact ⟨D', _, _, _, rfl, ⟨t1, t2, t3, rfl, rfl, rfl⟩, fun h _ N => .inr ⟨_, (N _ (hs _ hm)).1, rfl, e', rfl⟩⟩
end
end
section
open PySem PySem.W PyProof.Rows PySem.Calls PySem.Spec
open PyProof.Rows.LCg
set_option Elab.async false
set_option maxRecDepth 100000
set_option maxHeartbeats 1000000
section
theorem gend_one3 {h₀ h' : Heap} {L I C D Ds : Addr} {m : Str → Option Value} {o oI oC oD : Obj} {rest : List (Addr × Obj)} {R : Option Value → List (Addr × Obj) → Prop} {yo : Option Value} {s' : Shared} {tk : Nat}
    (F : Fr h₀ L h' m) (N : News h₀ L h' ((Ds, o) :: (I, oI) :: (C, oC) :: (D, oD) :: rest)) (h1 : @Ne Nat Ds I) (h2 : @Ne Nat Ds C) (h3 : @Ne Nat Ds D) (hR : R yo [(Ds, o)]) :
    GEnd h₀ L m ((I, oI) :: (C, oC) :: (D, oD) :: rest) I C D R yo s' { s' with heap := h', toks := tk } :=
  GEnd.intro [(Ds, o)] F N (fun p hp => hp) (Off3.of fun p hp => by
    rw [List.mem_singleton.mp hp]
    exact ⟨h1, h2, h3⟩) hR
theorem led_filter {h₀ h : Heap} {L : Addr} {pre ex : List (Addr × Obj)} (N : News h₀ L h (pre ++ ex)) (bad : List Addr) :
    ∃ ex', News h₀ L h (pre ++ ex') ∧ (∀ b ∈ bad, AllNe b ex') ∧ ∀ p ∈ ex, (∀ b ∈ bad, p.1 ≠ b) → p ∈ ex' := by
  refine ⟨ex.filter (fun p => decide (p.1 ∉ bad)), fun p hp => ?_, fun b hb => allNe_of fun p hp => ?_, fun p hp hn => List.mem_filter.mpr ⟨hp, ?_⟩⟩
  · rcases List.mem_append.mp hp with q | q
    · exact N p (List.mem_append_left _ q)
    · exact N p (List.mem_append_right _ (List.mem_filter.mp q).1)
  · intro e
    have := of_decide_eq_true (List.mem_filter.mp hp).2
    exact this (e ▸ hb)
  · exact decide_eq_true fun hm => hn _ hm rfl
/-- two objects of a ledger that differ lie apart -/
theorem led_ne {h₀ h : Heap} {L a b : Addr} {oa ob : Obj} {led : List (Addr × Obj)} (N : News h₀ L h led) (ha : (a, oa) ∈ led) (hb : (b, ob) ∈ led) (hd : oa.data ≠ ob.data) : a ≠ b := fun e => by
  have h1 := (N _ ha).1
  have h2 := (N _ hb).1
  dsimp only at h1 h2
  rw [e, h2] at h1
  exact hd (by rw [Option.some.inj h1])
/-- the objects of colours, apart from the cells and the table -/
theorem ColObjs.filter {h₀ h : Heap} {L : Addr} {pre ex : List (Addr × Obj)} {cf : Nat → Int × Int × Int} {n : Nat} {ys : List Value} (H : ColObjs cf n ys ex) (N : News h₀ L h (pre ++ ex)) (bad : List Addr)
    (hb : ∀ b ∈ bad, ∃ o, (b, o) ∈ pre ∧ ∀ its e, o.data ≠ .seq its e) : ∃ ex', News h₀ L h (pre ++ ex') ∧ (∀ b ∈ bad, AllNe b ex') ∧ ColObjs cf n ys ex' := by
  obtain ⟨ex', h1, h2, h3⟩ := led_filter N bad
  refine ⟨ex', h1, h2, H.1, fun j y hj => ?_⟩
  obtain ⟨D', xs, e', e1, e2, e3⟩ := H.2 j y hj
  refine ⟨D', xs, e', e1, e2, h3 _ e3 fun b hbb => ?_⟩
  obtain ⟨o, ho, hne⟩ := hb b hbb
  exact led_ne N (List.mem_append_right _ e3) (List.mem_append_left _ ho) fun q => hne _ _ q.symm
theorem news_front {h₀ h : Heap} {L : Addr} {x : Addr × Obj} {news ex : List (Addr × Obj)} (N : News h₀ L h (x :: (news ++ ex))) : News h₀ L h (x :: news) := fun p hp => N p (by
  rcases List.mem_cons.mp hp with rfl | hp
  · exact .head _
  · exact .tail _ (List.mem_append_left _ hp))
/-- pairs of ints in a ledger -/
noncomputable def PairObjs (pf : Nat → Int × Int) (n : Nat) (ys : List Value) (ex : List (Addr × Obj)) : Prop :=
  ys.length = n ∧ ∀ j, j < n → ∃ t ta tb, ys[j]? = some (.ref t) ∧ (t, tup2 (.int (pf j).1 ta) (.int (pf j).2 tb)) ∈ ex
theorem PairObjs.filter {h₀ h : Heap} {L : Addr} {pre ex : List (Addr × Obj)} {pf : Nat → Int × Int} {n : Nat} {ys : List Value} (H : PairObjs pf n ys ex) (N : News h₀ L h (pre ++ ex)) (bad : List Addr)
    (hb : ∀ b ∈ bad, ∃ o, (b, o) ∈ pre ∧ ∀ its, o.data ≠ .seq its) : ∃ ex', News h₀ L h (pre ++ ex') ∧ (∀ b ∈ bad, AllNe b ex') ∧ PairObjs pf n ys ex' := by
  obtain ⟨ex', h1, h2, h3⟩ := led_filter N bad
  refine ⟨ex', h1, h2, H.1, fun j hj => ?_⟩
  obtain ⟨t, ta, tb, e1, e2⟩ := H.2 j hj
  refine ⟨t, ta, tb, e1, h3 _ e2 fun b hbb => ?_⟩
  obtain ⟨o, ho, hne⟩ := hb b hbb
  exact led_ne N (List.mem_append_right _ e2) (List.mem_append_left _ ho) fun q => hne _ q.symm
/-- what rgb_to_hsv tells of the colours -/
noncomputable def TellObjs (cf : Nat → Int × Int × Int) (n : Nat) (ys : List Value) (ex : List (Addr × Obj)) : Prop :=
  ys.length = n ∧ ∀ (j : Nat) (y : Value), ys[j]? = some y → ∃ t t1 t2 t3, y = .ref t ∧ (t, tup3 (.float (hueF (cf j).1 (cf j).2.1 (cf j).2.2) t1) (.float (satF (cf j).1 (cf j).2.1 (cf j).2.2) t2) (.int (max3 (cf j).1 (cf j).2.1 (cf j).2.2) t3)) ∈ ex
theorem TellObjs.filter {h₀ h : Heap} {L : Addr} {pre ex : List (Addr × Obj)} {cf : Nat → Int × Int × Int} {n : Nat} {ys : List Value} (H : TellObjs cf n ys ex) (N : News h₀ L h (pre ++ ex)) (bad : List Addr)
    (hb : ∀ b ∈ bad, ∃ o, (b, o) ∈ pre ∧ ∀ its, o.data ≠ .seq its) : ∃ ex', News h₀ L h (pre ++ ex') ∧ (∀ b ∈ bad, AllNe b ex') ∧ TellObjs cf n ys ex' := by
  obtain ⟨ex', h1, h2, h3⟩ := led_filter N bad
  refine ⟨ex', h1, h2, H.1, fun j y hj => ?_⟩
  obtain ⟨t, t1, t2, t3, e1, e2⟩ := H.2 j y hj
  refine ⟨t, t1, t2, t3, e1, h3 _ e2 fun b hbb => ?_⟩
  obtain ⟨o, ho, hne⟩ := hb b hbb
  exact led_ne N (List.mem_append_right _ e2) (List.mem_append_left _ ho) fun q => hne _ q.symm
theorem TellObjs.seq {cf : Nat → Int × Int × Int} {n : Nat} {ys : List Value} {ex news : List (Addr × Obj)} (H : TellObjs cf n ys ex) (hs : ∀ p ∈ ex, p ∈ news) {h₀ : Heap} {L : Addr} {m : Str → Option Value} (i : Nat) (v : Value) (hv : ys.toArray[i]? = some v) :
    ∃ t a b c, v = .ref t ∧ (∃ t1 t2 t3, a = .float (hueF (cf i).1 (cf i).2.1 (cf i).2.2) t1 ∧ b = .float (satF (cf i).1 (cf i).2.1 (cf i).2.2) t2 ∧ c = .int (max3 (cf i).1 (cf i).2.1 (cf i).2.2) t3) ∧ ∀ h, Fr h₀ L h m → News h₀ L h news → SeqAt h t #[a, b, c] := by
  obtain ⟨t, t1, t2, t3, rfl, hm⟩ := H.2 i v (by simpa using hv)
  exact ⟨t, _, _, _, rfl, ⟨t1, t2, t3, rfl, rfl, rfl⟩, fun h _ N => .inl ⟨_, (N _ (hs _ hm)).1, rfl, 0, rfl⟩⟩
/-- the hues -/
noncomputable def HueVals (cf : Nat → Int × Int × Int) (n : Nat) (ys : List Value) : Prop :=
  ys.length = n ∧ ∀ (j : Nat), j < n → ∃ t, ys[j]? = some (.float (hueF (cf j).1 (cf j).2.1 (cf j).2.2) t)
theorem PairObjs.seq {pf : Nat → Int × Int} {n : Nat} {ys : List Value} {ex news : List (Addr × Obj)} (H : PairObjs pf n ys ex) (hs : ∀ p ∈ ex, p ∈ news) {h₀ : Heap} {L : Addr} {m : Str → Option Value} (i : Nat) (v : Value) (hi : i < n) (hv : ys.toArray[i]? = some v) :
    ∃ t a b, v = .ref t ∧ (∃ t1 t2, a = .int (pf i).1 t1 ∧ b = .int (pf i).2 t2) ∧ ∀ h, Fr h₀ L h m → News h₀ L h news → SeqAt h t #[a, b] := by
  obtain ⟨t, t1, t2, e1, hm⟩ := H.2 i hi
  have h1 : ys[i]? = some v := by simpa using hv
  rw [h1] at e1
  cases e1
  exact ⟨t, _, _, rfl, ⟨t1, t2, rfl, rfl⟩, fun h _ N => .inl ⟨_, (N _ (hs _ hm)).1, rfl, 0, rfl⟩⟩
theorem ints_vals' {f : Nat → Int} : ∀ {ys : List Value} {k : Nat}, (∀ j, j < ys.length → ∃ t, ys[j]? = some (.int (f (k + j)) t)) → IntsAre ys ((List.range' k ys.length).map f)
  | [], _, _ => .nil
  | y :: r, k, h => by
    obtain ⟨t, e⟩ := h 0 (by simp)
    simp only [List.getElem?_cons_zero, Option.some.injEq, Nat.add_zero] at e
    subst e
    rw [List.length_cons, List.range'_succ, List.map_cons]
    exact .cons _ _ (ints_vals' fun j hj => by
      obtain ⟨t, e⟩ := h (j + 1) (by simpa using hj)
      exact ⟨t, by rw [show k + 1 + j = k + (j + 1) by omega]; simpa using e⟩)
theorem ints_vals {f : Nat → Int} {n : Nat} {ys : List Value} (hl : ys.length = n) (h : ∀ j, j < n → ∃ t, ys[j]? = some (.int (f j) t)) : IntsAre ys ((List.range n).map f) := by
  subst hl
  rw [List.range_eq_range']
  exact ints_vals' fun j hj => by rw [Nat.zero_add]; exact h j hj
end
end
section
open PySem PySem.W PyProof.Rows PySem.Calls PySem.Spec
set_option Elab.async false
set_option maxRecDepth 100000
set_option maxHeartbeats 1000000
section
noncomputable def gtNum : Num → Num → Bool
  | .i a, .i b => decide (a > b)
  | .i a, .f y => Float64.cmpInt y a == some Ordering.lt
  | .f x, .i b => Float64.cmpInt x b == some Ordering.gt
  | .f x, .f y => Float64.cmp x y == some Ordering.gt
theorem cmp_nums {prog : Program} {w : World} {A : Around} {P : Nat → Value → Prop} (val : Nat → Num) (hval : ∀ i v, P i v → ∃ t, v = numV (val i) t) :
    CmpOf prog w A .Gt P (fun i j => gtNum (val i) (val j)) := fun i j vi vj s Q E hi hj h => by
  obtain ⟨t, rfl⟩ := hval i vi hi
  obtain ⟨u, rfl⟩ := hval j vj hj
  have h' : Q (.bool (gtNum (val i) (val j))) s := h
  clear h hval
  revert h'
  generalize val i = x0
  generalize val j = y0
  cases x0 with
  | i a =>
    cases y0 with
    | i b => exact fun h => richCompare_gives (op := .Gt) (typeIs_int s _ t) (typeIs_int s _ u) F.slot_int_gt F.entry_int_gt (F.args_int_gt_2 _ _) (gives_int_gt _ _ t u) (fun x => nomatch x) h
    | f y => exact fun h => gt_if (a := y) (n := a) (t := u) (u := t) h
  | f x =>
    cases y0 with
    | i b => exact fun h => gt_fi (a := x) (n := b) (t := t) (u := u) h
    | f y => exact fun h => AutoFloatOps.gt_0 (a := x) (b := y) (t := t) (u := u) h
section
variable {prog : Program} {w : World} {A : Around} {E : Value → Shared → Prop} {s : Shared} {h₀ : Heap} {L : Addr} {m : Str → Option Value} {news : List (Addr × Obj)}
theorem max_num {a b c : Num} {t u x : Tok} {Q : Value → Shared → Prop} (hh : A.handled = none) (F : Fr h₀ L s.heap m) (N : News h₀ L s.heap news)
    (h : ∀ v h' tk, (v = numV a t ∨ v = numV b u ∨ v = numV c x) → Fr h₀ L h' m → News h₀ L h' news → Q v { s with heap := h', toks := tk }) :
    wpAny (model prog w) A (call (.builtin "max") [numV a t, numV b u, numV c x]) Q E s := by
  have hT : (s.heap.push { cls := .type "tuple", data := .seq #[numV a t, numV b u, numV c x] }).IsTuple s.heap.objs.size #[numV a t, numV b u, numV c x] := ⟨_, Heap.get?_push_size _ rfl, rfl, 0, rfl⟩
  refine call_max_three (wpAny_pyIter_tuple hT ?_)
  have hsz : (s.heap.push { cls := .type "tuple", data := .seq #[numV a t, numV b u, numV c x] }).objs.size = s.heap.objs.size + 1 := Heap.size_push ..
  refine ⟨_, [_, s.heap.objs.size], [_], _, _, _, _, rfl, Walks.tuple (A := A.in1) hh _ s.heap.objs.size (by rw [hsz]; exact Nat.ne_of_lt (Nat.lt_succ_self _)) #[numV a t, numV b u, numV c x],
    ⟨⟨_, Heap.get?_push_size _ rfl, rfl, rfl⟩, hT.push _⟩, fun d hd => ?_, by simp, cmp_nums (fun i => if i = 0 then a else if i = 1 then b else c) (fun i v hv => ?_), fun v h' tk hP hk => ?_⟩
  · show d < ((s.heap.push _).push _).objs.size
    rw [Heap.size_push, hsz]
    rcases List.mem_cons.mp hd with rfl | hd
    · rw [hsz]; exact Nat.lt_succ_self _
    · rcases List.mem_cons.mp hd with rfl | hd
      · exact Nat.lt_succ_of_lt (Nat.lt_succ_self _)
      · cases hd
  · have hv' : (#[numV a t, numV b u, numV c x] : Array Value)[i]? = some v := hv
    rcases i with _ | _ | _ | i
    · exact ⟨t, by simpa using hv'.symm⟩
    · exact ⟨u, by simpa using hv'.symm⟩
    · exact ⟨x, by simpa using hv'.symm⟩
    · simp at hv'
  · have hold : ∀ d o, s.heap.get? d = some o → h'.get? d = some o := fun d o e => by
      refine hk d o (fun hm => ?_) (Heap.get?_push_of_some _ (Heap.get?_push_of_some _ e))
      rcases List.mem_cons.mp hm with e1 | hm
      · have := Heap.lt_size e; rw [e1, hsz] at this; exact Nat.lt_irrefl _ (Nat.lt_of_succ_lt this)
      · cases hm
    refine h v h' tk ?_ (F.keeps hold) (N.grown hold)
    have hP' : ∃ i, (#[numV a t, numV b u, numV c x] : Array Value)[i]? = some v := ⟨_, hP⟩
    obtain ⟨i, hv'⟩ := hP'
    rcases i with _ | _ | _ | i
    · exact .inl (by simpa using hv'.symm)
    · exact .inr (.inl (by simpa using hv'.symm))
    · exact .inr (.inr (by simpa using hv'.symm))
    · simp at hv'
end
end
end
section
open PySem PySem.W PyProof.Rows PySem.Calls PySem.Spec
set_option Elab.async false
set_option maxRecDepth 100000
set_option maxHeartbeats 1000000
section
noncomputable abbrev datP (p : Int × Int) : Dat := .tuple [.int p.1, .int p.2]
theorem dat_pairs' {pf : Nat → Int × Int} {ex : List (Addr × Obj)} : ∀ {ys : List Value} {k : Nat}, (∀ j, j < ys.length → ∃ t ta tb, ys[j]? = some (.ref t) ∧ (t, tup2 (.int (pf (k + j)).1 ta) (.int (pf (k + j)).2 tb)) ∈ ex) → DatAll ex ys ((List.range' k ys.length).map fun j => datP (pf j))
  | [], _, _ => .nil
  | y :: r, k, h => by
    obtain ⟨t, ta, tb, e, hm⟩ := h 0 (by simp)
    simp only [List.getElem?_cons_zero, Option.some.injEq, Nat.add_zero] at e hm
    subst e
    rw [List.length_cons, List.range'_succ, List.map_cons]
    refine .cons (DatIn.tuple (vs := [_, _]) (n := 0) hm (.cons (.int _ _) (.cons (.int _ _) .nil))) (dat_pairs' fun j hj => ?_)
    obtain ⟨t, ta, tb, e, hm⟩ := h (j + 1) (by simpa using hj)
    exact ⟨t, ta, tb, by simpa using e, by rw [show k + 1 + j = k + (j + 1) by omega]; exact hm⟩
theorem PairObjs.dat {pf : Nat → Int × Int} {n : Nat} {ys : List Value} {ex : List (Addr × Obj)} (H : PairObjs pf n ys ex) : DatAll ex ys ((List.range n).map fun j => datP (pf j)) := by
  obtain ⟨rfl, h⟩ := H
  rw [List.range_eq_range']
  exact dat_pairs' fun j hj => by rw [Nat.zero_add]; exact h j hj
theorem dat_ok {pf : Nat → Int × Int} {n : Nat} : ∀ d ∈ (List.range n).map fun j => datP (pf j), kqdOk 8 d = true := by
  intro d hd
  obtain ⟨j, -, rfl⟩ := List.mem_map.mp hd
  simp [kqdOk]
end
end
section
open PySem PySem.W PyProof.Rows PySem.Calls PySem.Spec
set_option Elab.async false
set_option maxRecDepth 100000
set_option maxHeartbeats 1000000
/-! numbers that are ints or floats: the few steps on them -/
section
noncomputable def subN : Num → Int → Num
  | .i a, z => .i (a - z)
  | .f x, z => .f (Float64.sub x (Float64.ofInt z))
noncomputable def absN : Num → Num
  | .i a => .i (if a < 0 then -a else a)
  | .f x => .f (Float64.abs x)
noncomputable def mulN : Num → Int → Num
  | .i a, z => .i (a * z)
  | .f x, z => .f (Float64.mul x (Float64.ofInt z))
noncomputable def geN : Num → Int → Bool
  | .i a, z => decide (a ≥ z)
  | .f x, z => Float64.cmpInt x z == some Ordering.gt || Float64.cmpInt x z == some Ordering.eq
/-- an int of it is nought -/
noncomputable def IntNought : Num → Prop
  | .i a => a = 0
  | .f _ => True
section
variable {prog : Program} {w : World} {A : Around} {E : Value → Shared → Prop} {s : Shared} {Q : Value → Shared → Prop} {n : Num} {z : Int} {t u : Tok}
theorem sub_N (hz : z.natAbs < 2 ^ 1023) (h : ∀ t' tk, Q (numV (subN n z) t') { s with toks := tk }) : wpAny (model prog w) A (binaryOp .Sub (numV n t) (.int z u)) Q E s := by
  cases n with
  | i a => exact sub_int (h _ _)
  | f x => exact sub_fi_fits hz (h _ _)
theorem abs_N (h : ∀ t' tk, Q (numV (absN n) t') { s with toks := tk }) : wpAny (model prog w) A (call (.builtin "abs") [numV n t]) Q E s := by
  cases n with
  | i a => exact call_abs_int fun _ _ => h _ _
  | f x => exact Flt.call_abs_float (h _ _)
theorem mul_N (hn : IntNought n) (hz : z.natAbs < 1048577) (h : ∀ t' tk, Q (numV (mulN n z) t') { s with toks := tk }) : wpAny (model prog w) A (binaryOp .Mult (numV n t) (.int z u)) Q E s := by
  cases n with
  | i a =>
    have : a = 0 := hn
    subst this
    exact mul_int (h _ _) (IntMulOk.of_left (by decide +kernel))
  | f x => exact mul_fi_fits (Nat.lt_trans hz (by decide +kernel)) (h _ _)
theorem ge_N (h : Q (.bool (geN n z)) s) : wpAny (model prog w) A (compareOp .GtE (numV n t) (.int z u)) Q E s := by
  cases n with
  | i a => exact ge_int h
  | f x => exact ge_fi h
end
/-- what is left of a part -/
structure OkN (n : Num) (z : Int) : Prop where
  nought : IntNought (absN (subN n z))
  small : geN (mulN (absN (subN n z)) (2 ^ Int.toNat 20)) 1 = false
theorem okN_int (z : Int) : OkN (.i z) z := ⟨by simp [IntNought, absN, subN], by simp [geN, mulN, absN, subN]⟩
end
end
section
/-! what the law asks of a ring, said plainly -/
open PySem
set_option Elab.async false
section
noncomputable def Near (x : UInt64) (z : Int) : Prop := (Float64.cmpInt (Float64.mul (Float64.abs (Float64.sub x (Float64.ofInt z))) (Float64.ofInt (2 ^ Int.toNat 20))) 1 == some Ordering.gt || Float64.cmpInt (Float64.mul (Float64.abs (Float64.sub x (Float64.ofInt z))) (Float64.ofInt (2 ^ Int.toNat 20))) 1 == some Ordering.eq) = false
theorem Near.ok {x : UInt64} {z : Int} (h : Near x z) : OkN (.f x) z := ⟨trivial, h⟩
structure RT (r g b : Int) : Prop where
  fa : Float64.isFinite (hueF r g b) = true
  fb : Float64.isFinite (satF r g b) = true
  f6 : Float64.isFinite (Float64.mul (hueF r g b) 4618441417868443648) = true
  b0 : (Float64.cmp (satF r g b) 0 == some .eq) = false
  hi : (iF (hueF r g b)).natAbs < 1000
  nr : OkN (h2r (hueF r g b) (satF r g b) (max3 r g b)).1 r ∧ OkN (h2r (hueF r g b) (satF r g b) (max3 r g b)).2.1 g ∧ OkN (h2r (hueF r g b) (satF r g b) (max3 r g b)).2.2 b
structure StepOk (a b : UInt64) : Prop where
  pos : (Float64.cmpInt (Float64.mul (Float64.divmod (Float64.sub a b) (Float64.ofInt 1)).2 (Float64.ofInt 2)) 0 == some Ordering.gt) = true
  lt : (Float64.cmpInt (Float64.mul (Float64.divmod (Float64.sub a b) (Float64.ofInt 1)).2 (Float64.ofInt 2)) 1 == some Ordering.lt) = true
end
end
section
/-! the hue of a colour, near the exact one -/
set_option Elab.async false
set_option maxHeartbeats 2000000
section
open PySem PySem.Float64
/-- nought stays nought -/
theorem right_zero {r : UInt64} {neg : Bool} {D : Nat} (hD : 0 < D) (h : Right r neg 0 D) : isFinite r = true ∧ val r = 0 := by
  have f := (rnd (k := 0) (by decide) hD (Nat.zero_le _) h).1
  refine ⟨f, ?_⟩
  obtain ⟨t, rfl, h1, h2, h3⟩ := h
  have hlt : t < infMag := by
    refine Nat.lt_of_le_of_ne h1 fun e => ?_
    subst e
    have : isFinite (pack neg infMag) = false := by cases neg <;> decide +kernel
    rw [this] at f; cases f
  have h4 := (h3 hlt 0).1
  rw [V_zero, Nat.mul_zero] at h4
  unfold Float64.dist at h4
  have h5 : D * V t = 0 := by lia
  have h6 : V t = 0 := by
    rcases Nat.mul_eq_zero.mp h5 with h | h
    · lia
    · exact h
  rw [val_pack neg hlt, h6]
  cases neg <;> decide
theorem div_zero {x y : UInt64} (fx : isFinite x = true) (fy : isFinite y = true) (hx0 : val x = 0) (hy0 : val y ≠ 0) : isFinite (div x y) = true ∧ val (div x y) = 0 := by
  obtain ⟨a, m, e, hx⟩ := dec fx
  obtain ⟨b, n, f, hy⟩ := dec fy
  have hn : n ≠ 0 := fun h => by
    have := val_natAbs hy
    rw [h, Nat.zero_mul] at this
    lia
  have h := div_right hx hy hn
  rw [hx0] at h
  simp only [Int.natAbs_zero, Nat.zero_mul] at h
  exact right_zero (by lia) h
theorem mul_zero {x y : UInt64} (fx : isFinite x = true) (fy : isFinite y = true) (hx0 : val x = 0) : isFinite (mul x y) = true ∧ val (mul x y) = 0 := by
  obtain ⟨a, m, e, hx⟩ := dec fx
  obtain ⟨b, n, f, hy⟩ := dec fy
  have h := mul_right hx hy
  rw [hx0] at h
  simp only [Int.natAbs_zero, Nat.zero_mul] at h
  exact right_zero (Nat.two_pow_pos _) h
theorem rv_two : rv 4611686018427387904 = 2 := rv_const (i := 2) (by decide +kernel)
theorem rv_four : rv 4616189618054758400 = 4 := rv_const (i := 4) (by decide +kernel)
theorem rv_six : rv 4618441417868443648 = 6 := rv_const (i := 6) (by decide +kernel)
theorem fin_two : isFinite 4611686018427387904 = true := by decide +kernel
theorem fin_four : isFinite 4616189618054758400 = true := by decide +kernel
theorem fin_six : isFinite 4618441417868443648 = true := by decide +kernel
theorem rat_div_le {a b c : Rat} (hb : 0 < b) (h : a ≤ c * b) : a / b ≤ c := by
  have h1 : a / b * b = a := by have : b ≠ 0 := fun e => by rw [e] at hb; exact absurd hb (by decide)
                                grind
  exact Rat.le_of_mul_le_mul_right (by rw [h1]; exact h) hb
theorem rat_le_div {a b c : Rat} (hb : 0 < b) (h : c * b ≤ a) : c ≤ a / b := by
  have h1 : a / b * b = a := by have : b ≠ 0 := fun e => by rw [e] at hb; exact absurd hb (by decide)
                                grind
  exact Rat.le_of_mul_le_mul_right (by rw [h1]; exact h) hb
theorem divF_nr {a b : Int} (ha : 0 ≤ a) (hb : 0 < b) (hab : a ≤ b) : Nr (divF a b) ((a : Rat) / (b : Rat)) (1 / 2 ^ 53) ∧ 0 ≤ (a : Rat) / (b : Rat) ∧ (a : Rat) / (b : Rat) ≤ 1 := by
  have hbr : (0 : Rat) < (b : Rat) := by exact_mod_cast hb
  have har : (0 : Rat) ≤ (a : Rat) := by exact_mod_cast ha
  have habr : (a : Rat) ≤ (b : Rat) := by exact_mod_cast hab
  have h0 : 0 ≤ (a : Rat) / (b : Rat) := rat_le_div hbr (by grind)
  have h1 : (a : Rat) / (b : Rat) ≤ 1 := rat_div_le hbr (by grind)
  refine ⟨?_, h0, h1⟩
  have e : divF a b = ofFrac false a.natAbs b.natAbs := by
    unfold divF
    rw [decide_eq_false (by lia), decide_eq_false (by lia)]; rfl
  have ea : ((a.natAbs : Nat) : Int) = a := by lia
  have eb : ((b.natAbs : Nat) : Int) = b := by lia
  have := ofFrac_nr a.natAbs b.natAbs (by lia) 0 (by decide) (by rw [ea, eb]; grind) (by rw [ea, eb]; grind)
  rw [ea, eb, ← e] at this
  exact this
/-- what is known of a colour -/
structure Col (r g b : Int) : Prop where
  lo : 0 ≤ min3 r g b
  hi : max3 r g b < 1048576
  ne : min3 r g b < max3 r g b
  rg : max3 r g b - min3 r g b ≤ 131072
theorem Rh_col (r g b : Int) : Rh (r - b) (g - b) = max3 r g b - min3 r g b := by
  have hx : max3 (r - b) (g - b) 0 = max3 r g b - b := by
    by_cases h1 : g ≤ r ∧ b ≤ r
    · rw [max3_1 (a := r - b) (by lia) (by lia), max3_1 h1.1 h1.2]
    by_cases h2 : r ≤ g ∧ b ≤ g
    · rw [max3_2 (b := g - b) (by lia) (by lia), max3_2 h2.1 h2.2]
    · rw [max3_3 (c := 0) (by lia) (by lia), max3_3 (c := b) (by lia) (by lia)]; lia
  have hn : min3 (r - b) (g - b) 0 = min3 r g b - b := by
    by_cases h1 : r ≤ g ∧ r ≤ b
    · rw [min3_1 (a := r - b) (by lia) (by lia), min3_1 h1.1 h1.2]
    by_cases h2 : g ≤ r ∧ g ≤ b
    · rw [min3_2 (b := g - b) (by lia) (by lia), min3_2 h2.1 h2.2]
    · rw [min3_3 (c := 0) (by lia) (by lia), min3_3 (c := b) (by lia) (by lia)]; lia
  rw [rh_of hx hn]; lia
theorem max3_x {r g b : Int} : (r = max3 r g b → max3 (r - b) (g - b) 0 = r - b) ∧ (r ≠ max3 r g b → g = max3 r g b → max3 (r - b) (g - b) 0 = g - b ∧ r - b ≠ g - b) ∧ (r ≠ max3 r g b → g ≠ max3 r g b → max3 (r - b) (g - b) 0 = 0 ∧ r - b ≠ 0 ∧ g - b ≠ 0) := by
  have hm := max3_le r g b
  refine ⟨fun h => max3_1 (by lia) (by lia), fun h h' => ⟨max3_2 (by lia) (by lia), by lia⟩, fun h h' => ⟨max3_3 (by lia) (by lia), by lia, by lia⟩⟩
/-- two quotients by one Z, put to and taken from a small whole number -/
theorem lift_nr {k : UInt64} {c p q Z : Int} (fk : isFinite k = true) (rk : rv k = (c : Rat)) (c0 : (0 : Rat) ≤ (c : Rat)) (c4 : (c : Rat) ≤ 4) (hZ : 0 < Z) (p0 : 0 ≤ p) (p1 : p ≤ Z) (q0 : 0 ≤ q) (q1 : q ≤ Z) :
    Nr (sub (add k (divF p Z)) (divF q Z)) (((c * Z + p - q : Int) : Rat) / (Z : Rat)) (18 / 2 ^ 53) := by
  obtain ⟨n1, l1, u1⟩ := divF_nr p0 hZ p1
  obtain ⟨n2, l2, u2⟩ := divF_nr q0 hZ q1
  have a1 := n1.hi
  have b1 := n1.lo
  have a2 := n2.hi
  have b2 := n2.lo
  have e : ((c * Z + p - q : Int) : Rat) / (Z : Rat) = (c : Rat) + (p : Rat) / (Z : Rat) - (q : Rat) / (Z : Rat) := by
    rw [Rat.intCast_sub, Rat.intCast_add, Rat.intCast_mul]
    have hne : (Z : Rat) ≠ 0 := fun w => absurd (Rat.intCast_eq_zero_iff.mp w) (Int.ne_of_gt hZ)
    clear a1 b1 a2 b2 l1 u1 l2 u2 n1 n2
    generalize (Z : Rat) = Y at hne ⊢
    grind
  rw [e]
  have m := add_nr (x := k) (y := divF p Z) 3 (by decide) fk n1.fin (by rw [rk]; grind) (by rw [rk]; grind)
  rw [rk] at m
  have m1 := m.hi
  have m2 := m.lo
  have s := sub_nr (x := add k (divF p Z)) (y := divF q Z) 3 (by decide) m.fin n2.fin (by grind) (by grind)
  have s1 := s.hi
  have s2 := s.lo
  exact ⟨s.fin, by grind, by grind⟩
theorem sub_0_val {x : UInt64} (fx : isFinite x = true) : val (sub x x) = 0 := by
  have z := sub_self fx
  refine Classical.byContradiction fun hne => ?_
  rcases Int.lt_or_gt_of_ne hne with q | q
  · have := rv_pos.2.mpr q; grind
  · have := rv_pos.1.mpr q; grind
theorem diff_nr {p q Z : Int} (hZ : 0 < Z) (p0 : 0 ≤ p) (p1 : p ≤ Z) (q0 : 0 ≤ q) (q1 : q ≤ Z) : Nr (sub (divF p Z) (divF q Z)) (((p - q : Int) : Rat) / (Z : Rat)) (18 / 2 ^ 53) := by
  obtain ⟨n1, l1, u1⟩ := divF_nr p0 hZ p1
  obtain ⟨n2, l2, u2⟩ := divF_nr q0 hZ q1
  have a1 := n1.hi
  have b1 := n1.lo
  have a2 := n2.hi
  have b2 := n2.lo
  have s := sub_nr (x := divF p Z) (y := divF q Z) 1 (by decide) n1.fin n2.fin (by grind) (by grind)
  have s1 := s.hi
  have s2 := s.lo
  have e : ((p - q : Int) : Rat) / (Z : Rat) = (p : Rat) / (Z : Rat) - (q : Rat) / (Z : Rat) := by
    rw [Rat.intCast_sub]
    clear a1 b1 a2 b2 l1 u1 l2 u2 n1 n2 s1 s2 s
    generalize (Z : Rat) = Y
    grind
  rw [e]
  exact ⟨s.fin, by grind, by grind⟩
theorem raw_nr {r g b : Int} (h : Col r g b) : Nr (hRaw r g b) ((Nraw (r - b) (g - b) : Rat) / ((max3 r g b - min3 r g b : Int) : Rat)) (18 / 2 ^ 53) ∧ (Nraw (r - b) (g - b) = 0 → val (hRaw r g b) = 0) := by
  obtain ⟨m1, m2, m3, -⟩ := max3_le r g b
  obtain ⟨n1, n2, n3, -⟩ := min3_le r g b
  have hR := h.ne
  have hZ : 0 < max3 r g b - min3 r g b := Int.sub_pos_of_lt hR
  have hRh := Rh_col r g b
  have r0 : 0 ≤ max3 r g b - r := Int.sub_nonneg_of_le m1
  have g0 : 0 ≤ max3 r g b - g := Int.sub_nonneg_of_le m2
  have b0 : 0 ≤ max3 r g b - b := Int.sub_nonneg_of_le m3
  have r1 : max3 r g b - r ≤ max3 r g b - min3 r g b := Int.sub_le_sub_left n1 _
  have g1 : max3 r g b - g ≤ max3 r g b - min3 r g b := Int.sub_le_sub_left n2 _
  have b1 : max3 r g b - b ≤ max3 r g b - min3 r g b := Int.sub_le_sub_left n3 _
  unfold hRaw
  by_cases c1 : r = max3 r g b
  · rw [if_pos c1]
    have hx : Nraw (r - b) (g - b) = g - b := nraw_x (max3_x.1 c1)
    rw [hx]
    refine ⟨?_, fun h0 => ?_⟩
    · have e : g - b = (max3 r g b - b) - (max3 r g b - g) := by lia
      rw [e]
      generalize max3 r g b - min3 r g b = Z at hZ b1 g1 ⊢
      generalize max3 r g b - b = p at b0 b1 ⊢
      generalize max3 r g b - g = q at g0 g1 ⊢
      exact diff_nr hZ b0 b1 g0 g1
    · have e : max3 r g b - g = max3 r g b - b := by rw [Int.eq_of_sub_eq_zero h0]
      rw [e]
      exact sub_0_val (divF_nr b0 hZ b1).1.fin
  · rw [if_neg c1]
    by_cases c2 : g = max3 r g b
    · rw [if_pos c2]
      have hx : Nraw (r - b) (g - b) = 2 * (max3 r g b - min3 r g b) - (r - b) := by rw [nraw_y (max3_x.2.1 c1 c2).1 (max3_x.2.1 c1 c2).2, hRh]
      rw [hx]
      refine ⟨?_, fun h0 => by lia⟩
      rw [show 2 * (max3 r g b - min3 r g b) - (r - b) = 2 * (max3 r g b - min3 r g b) + (max3 r g b - r) - (max3 r g b - b) by lia]
      exact lift_nr fin_two rv_two (by decide) (by decide) hZ r0 r1 b0 b1
    · rw [if_neg c2]
      have hx : Nraw (r - b) (g - b) = 4 * (max3 r g b - min3 r g b) + (r - b) - (g - b) := by rw [nraw_0 (max3_x.2.2 c1 c2).1 (max3_x.2.2 c1 c2).2.1 (max3_x.2.2 c1 c2).2.2, hRh]
      rw [hx]
      refine ⟨?_, fun h0 => by lia⟩
      rw [show 4 * (max3 r g b - min3 r g b) + (r - b) - (g - b) = 4 * (max3 r g b - min3 r g b) + (max3 r g b - g) - (max3 r g b - r) by lia]
      exact lift_nr fin_four rv_four (by decide) (by decide) hZ g0 g1 r0 r1
end
end
section
/-! the hue of a colour, near the exact one: the rest by one -/
set_option Elab.async false
set_option maxHeartbeats 2000000
section
open PySem PySem.Float64
/-- the exact hue -/
noncomputable def Hx (r g b : Int) : Rat := (Nh (r - b) (g - b) : Rat) / ((max3 r g b - min3 r g b : Int) : Rat) / 6
theorem val_of_rv {x : UInt64} (h : rv x = 0) : val x = 0 := by
  refine Classical.byContradiction fun hne => ?_
  rcases Int.lt_or_gt_of_ne hne with q | q
  · have := rv_pos.2.mpr q; grind
  · have := rv_pos.1.mpr q; grind
theorem hue_core {x : UInt64} {N Z : Int} (n : Nr x ((N : Rat) / (Z : Rat)) (18 / 2 ^ 53)) (hz : N = 0 → val x = 0) (h0 : 0 < Z) (hg : Z ≤ 131072) (hl : -Z ≤ N) (hu : N ≤ 5 * Z) :
    Nr (divmod (div x 4618441417868443648) one).2 (((if N < 0 then N + 6 * Z else N : Int) : Rat) / (Z : Rat) / 6) (5 / 2 ^ 53) ∧ 0 ≤ rv (divmod (div x 4618441417868443648) one).2 ∧ ((if N < 0 then N + 6 * Z else N) = 0 → val (divmod (div x 4618441417868443648) one).2 = 0) := by
  have hRr : (0 : Rat) < (Z : Rat) := by exact_mod_cast h0
  have hR2 : (Z : Rat) ≤ 131072 := Rat.intCast_le_intCast.mpr hg
  have hb1 : -1 ≤ (N : Rat) / (Z : Rat) := rat_le_div hRr (by
    have : ((-Z : Int) : Rat) ≤ (N : Rat) := Rat.intCast_le_intCast.mpr hl
    rw [Rat.intCast_neg] at this; grind)
  have hb2 : (N : Rat) / (Z : Rat) ≤ 5 := rat_div_le hRr (by
    have : (N : Rat) ≤ ((5 * Z : Int) : Rat) := Rat.intCast_le_intCast.mpr hu
    rw [Rat.intCast_mul] at this; exact this)
  have a1 := n.hi
  have a2 := n.lo
  have d := div_nr (x := x) (y := 4618441417868443648) 0 (by decide) n.fin fin_six (by rw [rv_six]; decide) (by rw [rv_six]; grind) (by rw [rv_six]; grind)
  rw [rv_six] at d
  have d1 := d.hi
  have d2 := d.lo
  obtain ⟨m1, m2⟩ := mod1 d.fin (by grind) (by grind)
  rcases Int.lt_trichotomy N 0 with c | c | c
  · rw [if_pos c]
    have hq : (N : Rat) / (Z : Rat) ≤ -(1 / 131072) := rat_div_le hRr (by
      have : (N : Rat) ≤ ((-1 : Int) : Rat) := Rat.intCast_le_intCast.mpr (Int.le_sub_one_of_lt c)
      have e1 : ((-1 : Int) : Rat) = -1 := rfl
      grind)
    have m := m2 (by grind)
    have e : ((N + 6 * Z : Int) : Rat) / (Z : Rat) / 6 = (N : Rat) / (Z : Rat) / 6 + 1 := by
      rw [Rat.intCast_add, Rat.intCast_mul]
      have hne : (Z : Rat) ≠ 0 := fun q => by rw [q] at hRr; exact absurd hRr (by decide)
      clear hRr hR2 hb1 hb2 a1 a2 d d1 d2 m1 m2 hq m n
      generalize (Z : Rat) = Y at hne ⊢
      show ((N : Rat) + 6 * Y) / Y / 6 = _
      grind
    rw [e]
    have k1 := m.hi
    have k2 := m.lo
    exact ⟨⟨m.fin, by grind, by grind⟩, by grind, fun q => by lia⟩
  · subst c
    rw [if_neg (by decide)]
    have z := hz rfl
    have dz := div_zero n.fin fin_six z (fun q => by have := rv_zero_of q; rw [rv_six] at this; exact absurd this (by decide))
    have dr := rv_zero_of dz.2
    obtain ⟨f, m⟩ := m1 (by rw [dr]; decide)
    rw [dr] at m
    have e : ((0 : Int) : Rat) / (Z : Rat) / 6 = 0 := by
      show (0 : Rat) / _ / 6 = 0
      clear hRr hR2 hb1 hb2 a1 a2 d d1 d2 m1 m2 m n
      grind
    rw [e]
    exact ⟨⟨f, by rw [m]; decide +kernel, by rw [m]; decide +kernel⟩, by rw [m]; decide, fun _ => val_of_rv m⟩
  · rw [if_neg (Int.not_lt.mpr (Int.le_of_lt c))]
    have hq : 1 / 131072 ≤ (N : Rat) / (Z : Rat) := rat_le_div hRr (by
      have : ((1 : Int) : Rat) ≤ (N : Rat) := Rat.intCast_le_intCast.mpr c
      have e1 : ((1 : Int) : Rat) = 1 := rfl
      grind)
    obtain ⟨f, m⟩ := m1 (by grind)
    exact ⟨⟨f, by grind, by grind⟩, by grind, fun q => absurd q (Int.ne_of_gt c)⟩
theorem hue_nr {r g b : Int} (h : Col r g b) : Nr (hueF r g b) (Hx r g b) (5 / 2 ^ 53) ∧ 0 ≤ rv (hueF r g b) ∧ (Nh (r - b) (g - b) = 0 → val (hueF r g b) = 0) := by
  obtain ⟨n, hz⟩ := raw_nr h
  have hRh := Rh_col r g b
  have h0 : 0 < max3 r g b - min3 r g b := Int.sub_pos_of_lt h.ne
  have hne : ¬ (r - b = 0 ∧ g - b = 0) := by
    have hm := max3_le r g b
    have hm2 := min3_le r g b
    exact fun q => by lia
  have hsa := (sec_all hne).2
  rw [hRh] at hsa
  unfold Hx hueF
  rw [one_eq]
  unfold Nh
  rw [hRh]
  exact hue_core n hz h0 h.rg hsa.1 hsa.2
end
end
section
/-! each division of the ring; the cyclic shift -/
set_option Elab.async false
set_option maxHeartbeats 1000000
section
theorem take_succ_snoc {row : List Int} {k : Nat} (h : k < row.length) : row.take (k + 1) = row.take k ++ [row[k]] := by
  rw [List.take_add_one, List.getElem?_eq_getElem h]; rfl
theorem ptS_succ {row : List Int} {k : Nat} (h : k < row.length) : ptS row (k + 1) = stp (ptS row k) row[k] := by
  show walkS (row.take (k + 1)) = _
  rw [take_succ_snoc h, walkS_snoc]
theorem ptS_next {row : List Int} (hR : Ring row) {k : Nat} (h : k < row.length) : ptS row (nextI row.length k) = ptS row (k + 1) := by
  unfold nextI
  rcases Nat.lt_or_ge (k + 1) row.length with h1 | h1
  · rw [Nat.mod_eq_of_lt h1]
  · have : k + 1 = row.length := by lia
    rw [this, Nat.mod_self]
    show walkS (row.take 0) = walkS (row.take row.length)
    rw [List.take_length, hR.closed]; rfl
theorem next_prev {n j : Nat} (h : j < n) : nextI n (prevI n j) = j := by
  unfold nextI prevI
  split
  · have : n - 1 + 1 = n := by lia
    rw [this, Nat.mod_self]; lia
  · have : j - 1 + 1 = j := by lia
    rw [this, Nat.mod_eq_of_lt h]
theorem prev_lt {n j : Nat} (h : j < n) : prevI n j < n := by unfold prevI; split <;> omega
theorem next_lt {n j : Nat} (h : j < n) : nextI n j < n := Nat.mod_lt _ (by lia)
theorem ptS_prev {row : List Int} (hR : Ring row) {j : Nat} (h : j < row.length) : ptS row j = stp (ptS row (prevI row.length j)) (row[prevI row.length j]'(prev_lt h)) := by
  rw [← ptS_succ (prev_lt h), ← ptS_next hR (prev_lt h), next_prev h]
theorem pts_get {row : List Int} {i : Nat} (h : i < row.length) : ((List.range row.length).map fun k => ((ptS row k).1, (ptS row k).2.1)).getD i (0, 0) = ((ptS row i).1, (ptS row i).2.1) := by
  rw [List.getD_eq_getElem?_getD, List.getElem?_map, List.getElem?_range h]; rfl
theorem rot_get {row : List Int} {j : Nat} (h : j < row.length) : (row.drop (row.length - 1) ++ row.take (row.length - 1)).getD j 0 = row[prevI row.length j]'(prev_lt h) := by
  have hl : (row.drop (row.length - 1)).length = 1 := by rw [List.length_drop]; omega
  rw [List.getD_eq_getElem?_getD]
  by_cases h0 : j = 0
  · subst h0
    rw [List.getElem?_append_left (by omega), List.getElem?_drop, List.getElem?_eq_getElem (by omega)]
    simp [prevI]
  · rw [List.getElem?_append_right (by omega), hl, List.getElem?_take, if_pos (by omega), List.getElem?_eq_getElem (by omega)]
    simp [prevI, h0]
theorem quot_ok {row : List Int} (hR : Ring row) {j : Nat} (hj : j < row.length) :
    divAt ((List.range row.length).map fun k => ((ptS row k).1, (ptS row k).2.1)) j = (row[prevI row.length j]'(prev_lt hj), 0) := by
  have hlen : ((List.range row.length).map fun k => ((ptS row k).1, (ptS row k).2.1)).length = row.length := by simp
  have hne := pt_ne (row := row) (k := j)
  have h1 := ptS_prev hR hj
  have h2 := ptS_next hR hj
  rw [ptS_succ hj] at h2
  have g1 := pts_get hj
  have g2 := pts_get (prev_lt hj)
  have g3 := pts_get (next_lt hj)
  generalize row[prevI row.length j]'(prev_lt hj) = q at h1 ⊢
  have e1 : (ptS row (prevI row.length j)).1 + (ptS row (nextI row.length j)).1 = q * (ptS row j).1 := by
    rw [h2]; rw [h1]; simp only [stp]; lia
  have e2 : (ptS row (prevI row.length j)).2.1 + (ptS row (nextI row.length j)).2.1 = q * (ptS row j).2.1 := by
    rw [h2]; rw [h1]; simp only [stp]; lia
  by_cases hx : (ptS row j).1 = 0
  · have hy : (ptS row j).2.1 ≠ 0 := fun e => hne ⟨hx, e⟩
    rw [divAt_eq (by rw [g1]; exact hx), hlen, g1, g2, g3]
    simp only
    rw [e2, Int.mul_fdiv_cancel _ hy, Int.mul_fmod_left]
  · rw [divAt_ne (by rw [g1]; exact hx), hlen, g1, g2, g3]
    simp only
    rw [e1, Int.mul_fdiv_cancel _ hx, Int.mul_fmod_left]
theorem plainQuot {row : List Int} (hR : Ring row) {j : Nat} (hj : j < row.length) : divAt ((List.range row.length).map fun k => ((ptS row k).1, (ptS row k).2.1)) j = ((row.drop (row.length - 1) ++ row.take (row.length - 1)).getD j 0, 0) := by
  rw [quot_ok hR hj, rot_get hj]
/-- the shift by one -/
theorem count_shift {n : Nat} (g : Nat → Bool) : (List.range n).countP (fun i => g (prevI n i)) = (List.range n).countP g := by
  cases n with
  | zero => rfl
  | succ n =>
    rw [List.range_succ_eq_map, List.countP_cons, List.countP_map]
    rw [← List.range_succ_eq_map, List.range_succ, List.countP_append, List.countP_singleton]
    congr 1
theorem map_shift {n : Nat} (g : Nat → Int) : ((List.range n).map fun i => g (prevI n i)).sum = ((List.range n).map g).sum := by
  cases n with
  | zero => rfl
  | succ n =>
    rw [List.range_succ_eq_map, List.map_cons, List.sum_cons, List.map_map]
    rw [← List.range_succ_eq_map, List.range_succ, List.map_append, List.sum_append, List.map_singleton, List.sum_singleton, Int.add_comm]
    congr 1
theorem sum_range (l : List Int) : ((List.range l.length).map fun i => l.getD i 0).sum = l.sum := by
  induction l with
  | nil => rfl
  | cons a r ih =>
    rw [List.length_cons, List.range_succ_eq_map, List.map_cons, List.sum_cons, List.map_map, List.sum_cons, ← ih]
    rfl
theorem quot_sum {row : List Int} (hR : Ring row) : ((List.range row.length).map fun j => (divAt ((List.range row.length).map fun k => ((ptS row k).1, (ptS row k).2.1)) j).1).sum = row.sum := by
  have e : ((List.range row.length).map fun j => (divAt ((List.range row.length).map fun k => ((ptS row k).1, (ptS row k).2.1)) j).1) = (List.range row.length).map fun j => (fun i => row.getD i 0) (prevI row.length j) := by
    refine List.map_congr_left fun j hj => ?_
    have hj' := List.mem_range.mp hj
    rw [quot_ok hR hj']
    simp only
    rw [List.getD_eq_getElem?_getD, List.getElem?_eq_getElem (prev_lt hj')]; rfl
  rw [e, map_shift (fun i => row.getD i 0), sum_range]
end
end
section
/-! two neighbours' hues -/
set_option Elab.async false
set_option maxHeartbeats 2000000
section
open PySem PySem.Float64
theorem xy_ne {r g b : Int} (h : Col r g b) : ¬ (r - b = 0 ∧ g - b = 0) := fun q => by
  have h1 := h.ne
  have hm := max3_le r g b
  have hn := min3_le r g b
  clear h
  lia
theorem diff_alg (N N' R R' : Rat) (h : R ≠ 0) (h' : R' ≠ 0) : N' / R' / 6 - N / R / 6 = (N' * R - N * R') / (6 * (R * R')) := by grind
theorem hx_diff {r g b r' g' b' : Int} (h : Col r g b) (h' : Col r' g' b') : Hx r' g' b' - Hx r g b =
    ((Nh (r' - b') (g' - b') * (max3 r g b - min3 r g b) - Nh (r - b) (g - b) * (max3 r' g' b' - min3 r' g' b') : Int) : Rat) / (((6 * ((max3 r g b - min3 r g b) * (max3 r' g' b' - min3 r' g' b')) : Int)) : Rat) := by
  have h1 := h.ne
  have h2 := h'.ne
  unfold Hx
  rw [diff_alg _ _ _ _ (by exact_mod_cast (by lia : max3 r g b - min3 r g b ≠ 0)) (by exact_mod_cast (by lia : max3 r' g' b' - min3 r' g' b' ≠ 0))]
  rw [Rat.intCast_sub (_ * _), Rat.intCast_mul, Rat.intCast_mul, Rat.intCast_mul, Rat.intCast_mul]
  rfl
theorem pair_near {r g b r' g' b' : Int} (h : Col r g b) (h' : Col r' g' b') (hdet : (r - b) * (g' - b') - (g - b) * (r' - b') = 1) :
    (¬ (g - b < 0 ∧ 0 ≤ g' - b') ∧ 1 / 2 ^ 37 ≤ Hx r' g' b' - Hx r g b ∧ Hx r' g' b' - Hx r g b ≤ 1 / 2 - 1 / 2 ^ 37) ∨ ((g - b < 0 ∧ 0 ≤ g' - b') ∧ -1 + 1 / 2 ^ 37 ≤ Hx r' g' b' - Hx r g b ∧ Hx r' g' b' - Hx r g b ≤ -(1 / 2) - 1 / 2 ^ 37) := by
  have h1 := h.ne
  have h2 := h'.ne
  have s1 := sec_of (x := r - b) (y := g - b) (xy_ne h)
  have s2 := sec_of (x := r' - b') (y := g' - b') (xy_ne h')
  rw [Rh_col] at s1 s2
  have hp := hue_pair s1 s2 hdet
  rw [hx_diff h h']
  have g1 := h.rg
  have g2 := h'.rg
  generalize max3 r g b - min3 r g b = R at *
  generalize max3 r' g' b' - min3 r' g' b' = R' at *
  generalize Nh (r' - b') (g' - b') * R - Nh (r - b) (g - b) * R' = δ at *
  have hR : 0 < R := s1.bound.1
  have hR' : 0 < R' := s2.bound.1
  have hZ : 0 < R * R' := Int.mul_pos hR hR'
  have hZ2 : R * R' ≤ 17179869184 := by
    have := Int.mul_le_mul g1 g2 (Int.le_of_lt hR') (by decide)
    exact this
  generalize R * R' = Z at *
  have hz : (0 : Rat) < ((6 * Z : Int) : Rat) := by exact_mod_cast (by lia : 0 < 6 * Z)
  have e6 : ((6 * Z : Int) : Rat) = 6 * (Z : Rat) := by rw [Rat.intCast_mul]; rfl
  have hzz : (Z : Rat) ≤ 17179869184 := Rat.intCast_le_intCast.mpr hZ2
  have hz0 : (0 : Rat) < (Z : Rat) := by exact_mod_cast hZ
  rcases hp with ⟨p1, p2, p3⟩ | ⟨p1, p2, p3⟩
  · refine .inl ⟨p1, rat_le_div hz ?_, rat_div_le hz ?_⟩
    · have : (1 : Rat) ≤ (δ : Rat) := by exact_mod_cast (by lia : 1 ≤ δ)
      rw [e6]; grind
    · have : (δ : Rat) ≤ ((3 * Z - 1 : Int) : Rat) := Rat.intCast_le_intCast.mpr (by lia)
      rw [Rat.intCast_sub, Rat.intCast_mul] at this
      have e3 : ((3 : Int) : Rat) = 3 := rfl
      have e1 : ((1 : Int) : Rat) = 1 := rfl
      rw [e3, e1] at this
      rw [e6]; grind
  · refine .inr ⟨p1, rat_le_div hz ?_, rat_div_le hz ?_⟩
    · have : ((-(6 * Z) + 1 : Int) : Rat) ≤ (δ : Rat) := Rat.intCast_le_intCast.mpr (by lia)
      rw [Rat.intCast_add, Rat.intCast_neg, e6] at this
      have e1 : ((1 : Int) : Rat) = 1 := rfl
      rw [e1] at this
      rw [e6]; grind
    · have : (δ : Rat) ≤ ((-(3 * Z) - 1 : Int) : Rat) := Rat.intCast_le_intCast.mpr (by lia)
      rw [Rat.intCast_sub, Rat.intCast_neg, Rat.intCast_mul] at this
      have e3 : ((3 : Int) : Rat) = 3 := rfl
      have e1 : ((1 : Int) : Rat) = 1 := rfl
      rw [e3, e1] at this
      rw [e6]; grind
theorem Hx_bound {r g b : Int} (h : Col r g b) : 0 ≤ Hx r g b ∧ Hx r g b < 1 := by
  have h1 := h.ne
  have s1 := sec_of (x := r - b) (y := g - b) (xy_ne h)
  rw [Rh_col] at s1
  obtain ⟨b1, b2, b3⟩ := s1.bound
  unfold Hx
  generalize max3 r g b - min3 r g b = R at *
  generalize Nh (r - b) (g - b) = N at *
  have hR : (0 : Rat) < (R : Rat) := by exact_mod_cast b1
  have hN : (0 : Rat) ≤ (N : Rat) := by exact_mod_cast b2
  have hRne : (R : Rat) ≠ 0 := fun q => by rw [q] at hR; exact absurd hR (by decide)
  have c1 : (0 : Rat) ≤ (N : Rat) / (R : Rat) := rat_le_div hR (by grind)
  have c2 : (N : Rat) / (R : Rat) < 6 := by
    have e : (N : Rat) / (R : Rat) * (R : Rat) = (N : Rat) := by grind
    have c3 : (N : Rat) < 6 * (R : Rat) := by
      have : (N : Rat) < ((6 * R : Int) : Rat) := Rat.intCast_lt_intCast.mpr b3
      rw [Rat.intCast_mul] at this; exact this
    rw [← e] at c3
    exact Rat.lt_of_mul_lt_mul_right c3 (Rat.le_of_lt hR)
  constructor <;> grind
theorem ofInt_two : rv (ofInt 2) = 2 := rv_const (i := 2) (by decide +kernel)
theorem fin_ofInt_two : isFinite (ofInt 2) = true := by decide +kernel
theorem step_ok {r g b r' g' b' : Int} (h : Col r g b) (h' : Col r' g' b') (hdet : (r - b) * (g' - b') - (g - b) * (r' - b') = 1) : StepOk (hueF r' g' b') (hueF r g b) := by
  obtain ⟨n, -, -⟩ := hue_nr h
  obtain ⟨n', -, -⟩ := hue_nr h'
  have hb := Hx_bound h
  have hb' := Hx_bound h'
  have hp := pair_near h h' hdet
  have a1 := n.hi
  have a2 := n.lo
  have c1 := n'.hi
  have c2 := n'.lo
  have s := sub_nr (x := hueF r' g' b') (y := hueF r g b) 1 (by decide) n'.fin n.fin (by grind) (by grind)
  have s1 := s.hi
  have s2 := s.lo
  have key : ∃ m : Rat, isFinite (divmod (sub (hueF r' g' b') (hueF r g b)) one).2 = true ∧ rv (divmod (sub (hueF r' g' b') (hueF r g b)) one).2 = m ∧ 1 / 2 ^ 38 ≤ m ∧ m ≤ 1 / 2 - 1 / 2 ^ 38 := by
    rcases hp with ⟨-, p1, p2⟩ | ⟨-, p1, p2⟩
    · obtain ⟨f, e⟩ := (mod1 s.fin (by grind) (by grind)).1 (by grind)
      exact ⟨_, f, e, by grind, by grind⟩
    · have m := (mod1 s.fin (by grind) (by grind)).2 (by grind)
      have m1 := m.hi
      have m2 := m.lo
      exact ⟨_, m.fin, rfl, by grind, by grind⟩
  obtain ⟨m, f, e, k1, k2⟩ := key
  have t := mul_nr (x := (divmod (sub (hueF r' g' b') (hueF r g b)) one).2) (y := ofInt 2) 1 (by decide) f fin_ofInt_two (by rw [e, ofInt_two]; grind) (by rw [e, ofInt_two]; grind)
  rw [e, ofInt_two] at t
  have t1 := t.hi
  have t2 := t.lo
  refine ⟨?_, ?_⟩
  · rw [ofInt_one, cmpInt_gt t.fin (i := 0) (by show (0 : Rat) < _; grind)]; rfl
  · rw [ofInt_one, cmpInt_lt t.fin (i := 1) (by show _ < (1 : Rat); grind)]; rfl
theorem hue_lt {r g b r' g' b' : Int} (h : Col r g b) (h' : Col r' g' b') (hdet : (r - b) * (g' - b') - (g - b) * (r' - b') = 1) : (cmp (hueF r' g' b') (hueF r g b) == some Ordering.lt) = (decide (g - b < 0) && decide (0 ≤ g' - b')) := by
  obtain ⟨n, -, -⟩ := hue_nr h
  obtain ⟨n', -, -⟩ := hue_nr h'
  have hp := pair_near h h' hdet
  have a1 := n.hi
  have a2 := n.lo
  have c1 := n'.hi
  have c2 := n'.lo
  rw [cmp_lt n'.fin n.fin]
  rcases hp with ⟨p0, p1, p2⟩ | ⟨p0, p1, p2⟩
  · rw [decide_eq_false (by grind)]
    by_cases q1 : g - b < 0
    · rw [decide_eq_false (show ¬ (0 ≤ g' - b') from fun q2 => p0 ⟨q1, q2⟩), Bool.and_false]
    · rw [decide_eq_false q1, Bool.false_and]
  · rw [decide_eq_true (by grind), decide_eq_true p0.1, decide_eq_true p0.2]; rfl
end
end
section
/-! there and back: what hsv_to_rgb makes of what rgb_to_hsv tells -/
set_option Elab.async false
set_option maxHeartbeats 2000000
section
open PySem PySem.Float64
theorem mul_bd {x y X Y : Rat} (h1 : x ≤ X) (h2 : -X ≤ x) (h3 : y ≤ Y) (h4 : -Y ≤ y) : x * y ≤ X * Y ∧ -(X * Y) ≤ x * y := by
  have p1 := Rat.mul_nonneg (show 0 ≤ X - x by grind) (show 0 ≤ Y + y by grind)
  have p2 := Rat.mul_nonneg (show 0 ≤ X + x by grind) (show 0 ≤ Y - y by grind)
  have p3 := Rat.mul_nonneg (show 0 ≤ X - x by grind) (show 0 ≤ Y - y by grind)
  have p4 := Rat.mul_nonneg (show 0 ≤ X + x by grind) (show 0 ≤ Y + y by grind)
  constructor <;> grind
theorem prod_near {a b A B ea eb Mb MA : Rat} (h1 : a - A ≤ ea) (h2 : -ea ≤ a - A) (h3 : b - B ≤ eb) (h4 : -eb ≤ b - B) (h5 : b ≤ Mb) (h6 : -Mb ≤ b) (h7 : A ≤ MA) (h8 : -MA ≤ A) :
    a * b - A * B ≤ ea * Mb + MA * eb ∧ -(ea * Mb + MA * eb) ≤ a * b - A * B := by
  have p1 := mul_bd h1 h2 h5 h6
  have p2 := mul_bd h7 h8 h3 h4
  have e : a * b - A * B = (a - A) * b + A * (b - B) := by grind
  rw [e]
  constructor <;> grind
theorem Nr.mono {x : UInt64} {q e e' : Rat} (n : Nr x q e) (h : e ≤ e') : Nr x q e' := ⟨n.fin, by have := n.hi; grind, by have := n.lo; grind⟩
/-- the value times a share near 1 or less -/
theorem scale {v : Int} {y : UInt64} {Y : Rat} (hv : 0 ≤ v ∧ v < 1048576) (n : Nr y Y (60 / 2 ^ 53)) (h1 : Y ≤ 1) (h2 : -1 ≤ Y) : Nr (mul (ofInt v) y) ((v : Rat) * Y) (64 * 2 ^ 20 / 2 ^ 53) := by
  have v0 : (0 : Rat) ≤ (v : Rat) := by exact_mod_cast hv.1
  have v1 : (v : Rat) ≤ 1048576 := Rat.intCast_le_intCast.mpr (by lia : v ≤ 1048576)
  have o := ofInt_nr v 20 (by decide) (by grind) (by grind)
  have o1 := o.hi
  have o2 := o.lo
  have n1 := n.hi
  have n2 := n.lo
  have p := prod_near (a := rv (ofInt v)) (b := rv y) (A := (v : Rat)) (B := Y) (ea := 2 ^ 20 / 2 ^ 53) (eb := 60 / 2 ^ 53) (Mb := 2) (MA := 1048576) o1 o2 n1 n2 (by grind) (by grind) v1 (by grind)
  have q := mul_bd (x := (v : Rat)) (y := Y) (X := 1048576) (Y := 1) v1 (by grind) h1 h2
  have m := mul_nr (x := ofInt v) (y := y) 21 (by decide) o.fin n.fin (by grind) (by grind)
  have m1 := m.hi
  have m2 := m.lo
  exact ⟨m.fin, by grind, by grind⟩
theorem rv_20 : rv (ofInt (2 ^ Int.toNat 20)) = 1048576 := rv_const (i := 1048576) (by decide +kernel)
theorem fin_20 : isFinite (ofInt (2 ^ Int.toNat 20)) = true := by decide +kernel
theorem near_of {x : UInt64} {z : Int} (hz : 0 ≤ z ∧ z < 1048576) (n : Nr x (z : Rat) (64 * 2 ^ 20 / 2 ^ 53)) : Near x z := by
  have z0 : (0 : Rat) ≤ (z : Rat) := by exact_mod_cast hz.1
  have z1 : (z : Rat) ≤ 1048576 := Rat.intCast_le_intCast.mpr (by lia : z ≤ 1048576)
  have o := ofInt_nr z 20 (by decide) (by grind) (by grind)
  have o1 := o.hi
  have o2 := o.lo
  have n1 := n.hi
  have n2 := n.lo
  have s := sub_nr (x := x) (y := ofInt z) 1 (by decide) n.fin o.fin (by grind) (by grind)
  have s1 := s.hi
  have s2 := s.lo
  obtain ⟨af, ae⟩ := abs_rv s.fin
  have m := mul_nr (x := Float64.abs (sub x (ofInt z))) (y := ofInt (2 ^ Int.toNat 20)) 1 (by decide) af fin_20 (by rw [rv_20]; rcases ae with e | e <;> rw [e] <;> grind) (by rw [rv_20]; rcases ae with e | e <;> rw [e] <;> grind)
  rw [rv_20] at m
  have m1 := m.hi
  have hlt : rv (mul (Float64.abs (sub x (ofInt z))) (ofInt (2 ^ Int.toNat 20))) < ((1 : Int) : Rat) := by
    show _ < (1 : Rat)
    rcases ae with e | e <;> rw [e] at m1 <;> grind
  unfold Near
  rw [cmpInt_lt m.fin hlt]; rfl
section
variable {sat f : UInt64} {S φ : Rat}
theorem share_q (ns : Nr sat S (1 / 2 ^ 53)) (hS : 0 ≤ S ∧ S ≤ 1) (n : Nr f φ (54 / 2 ^ 53)) (hφ : 0 ≤ φ ∧ φ ≤ 1) : Nr (sub one (mul sat f)) (1 - S * φ) (60 / 2 ^ 53) := by
  have a1 := ns.hi
  have a2 := ns.lo
  have n1 := n.hi
  have n2 := n.lo
  have p := prod_near (a := rv sat) (b := rv f) (A := S) (B := φ) (ea := 1 / 2 ^ 53) (eb := 54 / 2 ^ 53) (Mb := 1 + 54 / 2 ^ 53) (MA := 1) a1 a2 n1 n2 (by grind) (by grind) hS.2 (by grind)
  have q := mul_bd (x := S) (y := φ) (X := 1) (Y := 1) hS.2 (by grind) hφ.2 (by grind)
  have q2 := Rat.mul_nonneg hS.1 hφ.1
  have m := mul_nr (x := sat) (y := f) 1 (by decide) ns.fin n.fin (by grind) (by grind)
  have m1 := m.hi
  have m2 := m.lo
  have s := sub_nr (x := one) (y := mul sat f) 1 (by decide) fin_one m.fin (by rw [rv_one]; grind) (by rw [rv_one]; grind)
  rw [rv_one] at s
  have s1 := s.hi
  have s2 := s.lo
  exact ⟨s.fin, by grind, by grind⟩
theorem share_t (ns : Nr sat S (1 / 2 ^ 53)) (hS : 0 ≤ S ∧ S ≤ 1) (n : Nr f φ (50 / 2 ^ 53)) (hφ : 0 ≤ φ ∧ φ ≤ 1) : Nr (sub one (mul sat (sub one f))) (1 - S * (1 - φ)) (60 / 2 ^ 53) := by
  have n1 := n.hi
  have n2 := n.lo
  have s := sub_nr (x := one) (y := f) 1 (by decide) fin_one n.fin (by rw [rv_one]; grind) (by rw [rv_one]; grind)
  rw [rv_one] at s
  have s1 := s.hi
  have s2 := s.lo
  exact share_q (f := sub one f) (φ := 1 - φ) ns hS ⟨s.fin, by grind, by grind⟩ ⟨by grind, by grind⟩
theorem share_p (ns : Nr sat S (1 / 2 ^ 53)) (hS : 0 ≤ S ∧ S ≤ 1) : Nr (sub one sat) (1 - S) (60 / 2 ^ 53) := by
  have a1 := ns.hi
  have a2 := ns.lo
  have s := sub_nr (x := one) (y := sat) 1 (by decide) fin_one ns.fin (by rw [rv_one]; grind) (by rw [rv_one]; grind)
  rw [rv_one] at s
  have s1 := s.hi
  have s2 := s.lo
  exact ⟨s.fin, by grind, by grind⟩
end
/-- which sixth of the wheel -/
theorem turn_eq {k T R be w N : Int} (hb : 0 ≤ be) (hR : be < R) (hN : N = k * R + be) (hw : w = N - T * R) (h0 : 0 ≤ w) (h1 : w ≤ R) : (T = k ∧ w = be) ∨ (T = k - 1 ∧ be = 0 ∧ w = R) := by
  have e : w = (k - T) * R + be := by rw [hw, hN, Int.sub_mul]; lia
  clear hw hN
  generalize hq : k - T = q at e
  have hR0 : 0 ≤ R := Int.le_of_lt (Int.lt_of_le_of_lt hb hR)
  rcases Int.lt_trichotomy q 0 with h | h | h
  · have := Int.mul_le_mul_of_nonneg_right (show q ≤ -1 by lia) hR0
    lia
  · subst h; exact .inl ⟨by lia, by lia⟩
  · by_cases h2 : q = 1
    · subst h2; exact .inr ⟨by lia, by lia, by lia⟩
    · have := Int.mul_le_mul_of_nonneg_right (show 2 ≤ q by lia) hR0
      lia
theorem eq_add {a b c : Int} (h : a - b = c) : a = c + b := by rw [← h, Int.sub_add_cancel]
theorem nonpos_add {a b : Int} (h : a ≤ 0) : a + b ≤ b := by have := Int.add_le_add_right h b; rwa [Int.zero_add] at this
/-- which corner of the wheel -/
theorem geo {r g b R N mx mn T w : Int} (hs : Sec (r - b) (g - b) R N) (hmx : mx = max3 r g b) (hmn : mn = min3 r g b) (hT : 0 ≤ T ∧ T ≤ 5) (hw : w = N - T * R) (h0 : 0 ≤ w) (h1 : w ≤ R) :
    (T = 0 ∧ r = mx ∧ g = mn + w ∧ b = mn) ∨ (T = 1 ∧ r = mx - w ∧ g = mx ∧ b = mn) ∨ (T = 2 ∧ r = mn ∧ g = mx ∧ b = mn + w) ∨ (T = 3 ∧ r = mn ∧ g = mx - w ∧ b = mx) ∨ (T = 4 ∧ r = mn + w ∧ g = mn ∧ b = mx) ∨ (T = 5 ∧ r = mx ∧ g = mn ∧ b = mx - w) := by
  obtain ⟨al, be, ha, hb, rfl, hs⟩ := hs
  have ha' := Int.le_of_lt ha
  have hbR : be < al + be := Int.lt_add_of_pos_left be ha
  have hR0 : 0 ≤ al + be := Int.add_nonneg ha' hb
  have hal : al ≤ al + be := Int.le_add_of_nonneg_right hb
  have hbe : be ≤ al + be := Int.le_of_lt hbR
  have na := Int.neg_nonpos_of_nonneg ha'
  have nb := Int.neg_nonpos_of_nonneg hb
  have nR := Int.neg_nonpos_of_nonneg hR0
  rcases hs with ⟨x1, x2, x3⟩ | ⟨x1, x2, x3⟩ | ⟨x1, x2, x3⟩ | ⟨x1, x2, x3⟩ | ⟨x1, x2, x3⟩ | ⟨x1, x2, x3⟩
  all_goals
    obtain rfl := eq_add x1
    obtain rfl := eq_add x2
    clear x1 x2
  · rw [max3_1 (Int.add_le_add_right hbe b) (Int.le_add_of_nonneg_left hR0)] at hmx
    rw [min3_3 (Int.le_add_of_nonneg_left hR0) (Int.le_add_of_nonneg_left hb)] at hmn
    subst hmx hmn
    rcases turn_eq (k := 0) hb hbR (by lia) hw h0 h1 with ⟨rfl, rfl⟩ | ⟨e, -, -⟩
    · exact .inl ⟨rfl, rfl, Int.add_comm .., rfl⟩
    · exact absurd (e ▸ hT.1) (by decide)
  · rw [max3_2 (Int.add_le_add_right hal b) (Int.le_add_of_nonneg_left hR0)] at hmx
    rw [min3_3 (Int.le_add_of_nonneg_left ha') (Int.le_add_of_nonneg_left hR0)] at hmn
    subst hmx hmn
    rcases turn_eq (k := 1) hb hbR (by lia) hw h0 h1 with ⟨rfl, rfl⟩ | ⟨e, z, y⟩
    · exact .inr (.inl ⟨rfl, by lia, rfl, rfl⟩)
    · exact .inl ⟨e, by rw [z, Int.add_zero], by rw [y, Int.add_comm], rfl⟩
  · rw [max3_2 (Int.add_le_add_right (Int.le_trans nb ha') b) (Int.le_add_of_nonneg_left ha')] at hmx
    rw [min3_1 (Int.add_le_add_right (Int.le_trans nb ha') b) (nonpos_add nb)] at hmn
    subst hmx hmn
    rcases turn_eq (k := 2) hb hbR (by lia) hw h0 h1 with ⟨rfl, rfl⟩ | ⟨e, z, y⟩
    · exact .inr (.inr (.inl ⟨rfl, rfl, rfl, by lia⟩))
    · exact .inr (.inl ⟨e, by lia, rfl, by rw [z, Int.neg_zero, Int.zero_add]⟩)
  · rw [max3_3 (nonpos_add nR) (nonpos_add nb)] at hmx
    rw [min3_1 (Int.add_le_add_right (Int.neg_le_neg hbe) b) (nonpos_add nR)] at hmn
    subst hmx hmn
    rcases turn_eq (k := 3) hb hbR (by lia) hw h0 h1 with ⟨rfl, rfl⟩ | ⟨e, z, y⟩
    · exact .inr (.inr (.inr (.inl ⟨rfl, rfl, by lia, rfl⟩)))
    · exact .inr (.inr (.inl ⟨e, rfl, by rw [z, Int.neg_zero, Int.zero_add], by lia⟩))
  · rw [max3_3 (nonpos_add na) (nonpos_add nR)] at hmx
    rw [min3_2 (Int.add_le_add_right (Int.neg_le_neg hal) b) (nonpos_add nR)] at hmn
    subst hmx hmn
    rcases turn_eq (k := 4) hb hbR (by lia) hw h0 h1 with ⟨rfl, rfl⟩ | ⟨e, z, y⟩
    · exact .inr (.inr (.inr (.inr (.inl ⟨rfl, by lia, rfl, rfl⟩))))
    · exact .inr (.inr (.inr (.inl ⟨e, by rw [z, Int.add_zero], by lia, rfl⟩)))
  · rw [max3_1 (Int.add_le_add_right (Int.le_trans na hb) b) (Int.le_add_of_nonneg_left hb)] at hmx
    rw [min3_2 (Int.add_le_add_right (Int.le_trans na hb) b) (nonpos_add na)] at hmn
    subst hmx hmn
    rcases turn_eq (k := 5) hb hbR (by lia) hw h0 h1 with ⟨rfl, rfl⟩ | ⟨e, z, y⟩
    · exact .inr (.inr (.inr (.inr (.inr ⟨rfl, rfl, rfl, by lia⟩))))
    · exact .inr (.inr (.inr (.inr (.inl ⟨e, by lia, rfl, by rw [z, Int.zero_add]⟩))))
end
end
section
/-! there and back, joined -/
set_option Elab.async false
set_option maxHeartbeats 2000000
section
open PySem PySem.Float64
/-- the whole part of six hues, and what is behind it -/
theorem whole_part {r g b : Int} (h : Col r g b) : isFinite (mul (hueF r g b) 4618441417868443648) = true ∧ (0 ≤ iF (hueF r g b) ∧ iF (hueF r g b) ≤ 5) ∧
    0 ≤ Nh (r - b) (g - b) - iF (hueF r g b) * (max3 r g b - min3 r g b) ∧ Nh (r - b) (g - b) - iF (hueF r g b) * (max3 r g b - min3 r g b) ≤ max3 r g b - min3 r g b ∧
    Nr (fF (hueF r g b)) (((Nh (r - b) (g - b) - iF (hueF r g b) * (max3 r g b - min3 r g b) : Int) : Rat) / ((max3 r g b - min3 r g b : Int) : Rat)) (50 / 2 ^ 53) := by
  obtain ⟨n, n0, nz⟩ := hue_nr h
  have hb := Hx_bound h
  have h1 := h.ne
  have hg := h.rg
  have s1 := sec_of (x := r - b) (y := g - b) (xy_ne h)
  rw [Rh_col] at s1
  obtain ⟨b1, b2, b3⟩ := s1.bound
  have a1 := n.hi
  have a2 := n.lo
  have m := mul_nr (x := hueF r g b) (y := 4618441417868443648) 3 (by decide) n.fin fin_six (by rw [rv_six]; grind) (by rw [rv_six]; grind)
  rw [rv_six] at m
  have m1 := m.hi
  have m2 := m.lo
  unfold Hx at a1 a2 hb
  have mz : Nh (r - b) (g - b) = 0 → rv (mul (hueF r g b) 4618441417868443648) = 0 := fun q => rv_zero_of (mul_zero n.fin fin_six (nz q)).2
  have hiF : iF (hueF r g b) = Flt.toInt truncOf (mul (hueF r g b) 4618441417868443648) := rfl
  have hfF : fF (hueF r g b) = sub (mul (hueF r g b) 4618441417868443648) (ofInt (iF (hueF r g b))) := rfl
  rw [hfF]
  have fm := m.fin
  rw [hiF]
  clear hiF hfF nz
  generalize mul (hueF r g b) 4618441417868443648 = M at *
  generalize max3 r g b - min3 r g b = R at *
  generalize Nh (r - b) (g - b) = N at *
  have hR : (0 : Rat) < (R : Rat) := by exact_mod_cast b1
  have hRne : (R : Rat) ≠ 0 := fun q => by rw [q] at hR; exact absurd hR (by decide)
  have hR2 : (R : Rat) ≤ 131072 := Rat.intCast_le_intCast.mpr hg
  have hQ : (N : Rat) / (R : Rat) * (R : Rat) = (N : Rat) := by grind
  have hM0 : 0 ≤ rv M := by
    by_cases hN : N = 0
    · rw [mz hN]; decide
    · have : (1 : Rat) ≤ (N : Rat) := by exact_mod_cast (by lia : 1 ≤ N)
      have : 1 / 131072 ≤ (N : Rat) / (R : Rat) := rat_le_div hR (by grind)
      grind
  clear mz
  obtain ⟨t1, t2⟩ := trunc_rv fm hM0
  generalize Flt.toInt truncOf M = T at *
  have q1 : rv M - (N : Rat) / (R : Rat) ≤ 38 / 2 ^ 53 := by grind
  have q2 : -(38 / 2 ^ 53) ≤ rv M - (N : Rat) / (R : Rat) := by grind
  clear a1 a2 m1 m2 hb n n0 m h h1
  generalize (N : Rat) / (R : Rat) = Q at hQ q1 q2
  have w1 : (T : Rat) * (R : Rat) < (N : Rat) + 1 := by
    have := Rat.mul_le_mul_of_nonneg_right (show (T : Rat) ≤ Q + 38 / 2 ^ 53 by grind) (Rat.le_of_lt hR)
    grind
  have w2 : (N : Rat) - (T : Rat) * (R : Rat) < (R : Rat) + 1 := by
    have := Rat.mul_le_mul_of_nonneg_right (show Q - 38 / 2 ^ 53 ≤ (T : Rat) + 1 by grind) (Rat.le_of_lt hR)
    grind
  have w1' : T * R < N + 1 := by
    have : ((T * R : Int) : Rat) < ((N + 1 : Int) : Rat) := by rw [Rat.intCast_mul, Rat.intCast_add]; exact w1
    exact Rat.intCast_lt_intCast.mp this
  have w2' : N - T * R < R + 1 := by
    have : ((N - T * R : Int) : Rat) < ((R + 1 : Int) : Rat) := by rw [Rat.intCast_sub, Rat.intCast_mul, Rat.intCast_add]; exact w2
    exact Rat.intCast_lt_intCast.mp this
  have hT0 : 0 ≤ T := by
    have : ((-1 : Int) : Rat) < (T : Rat) := by
      have e : ((-1 : Int) : Rat) = -1 := rfl
      rw [e]; grind
    have := Rat.intCast_lt_intCast.mp this
    lia
  have hT5 : T ≤ 5 := by
    refine Int.not_lt.mp fun q => ?_
    have := Int.mul_le_mul_of_nonneg_right (show 6 ≤ T by lia) (Int.le_of_lt b1)
    lia
  have hTr : (T : Rat) ≤ 5 := Rat.intCast_le_intCast.mpr hT5
  have hTr0 : (0 : Rat) ≤ (T : Rat) := by exact_mod_cast hT0
  refine ⟨fm, ⟨hT0, hT5⟩, by lia, by lia, ?_⟩
  have o := ofInt_nr T 3 (by decide) (by grind) (by grind)
  have o1 := o.hi
  have o2 := o.lo
  have s := sub_nr (x := M) (y := ofInt T) 1 (by decide) fm o.fin (by grind) (by grind)
  have s2 := s.hi
  have s3 := s.lo
  have e : ((N - T * R : Int) : Rat) / (R : Rat) = Q - (T : Rat) := by
    rw [Rat.intCast_sub, Rat.intCast_mul]
    grind
  rw [e]
  exact ⟨s.fin, by grind, by grind⟩
theorem back_alg (v R w : Rat) (hv : v ≠ 0) (hR : R ≠ 0) : v * (1 - R / v * (w / R)) = v - w ∧ v * (1 - R / v * (1 - w / R)) = v - R + w ∧ v * (1 - R / v) = v - R := by
  refine ⟨?_, ?_, ?_⟩ <;> grind
theorem rt_ok {r g b : Int} (h : Col r g b) : RT r g b := by
  obtain ⟨n, -, -⟩ := hue_nr h
  obtain ⟨f6, hT, w0, w1, nf⟩ := whole_part h
  have h1 := h.ne
  have hlo := h.lo
  have hhi := h.hi
  have s1 := sec_of (x := r - b) (y := g - b) (xy_ne h)
  rw [Rh_col] at s1
  have hgeo := geo s1 rfl rfl hT rfl w0 w1
  have hmx : 0 < max3 r g b := by lia
  obtain ⟨ns, u0, u1⟩ := divF_nr (a := max3 r g b - min3 r g b) (b := max3 r g b) (by lia) hmx (by lia)
  have hRr : (0 : Rat) < ((max3 r g b - min3 r g b : Int) : Rat) := by exact_mod_cast (by lia : 0 < max3 r g b - min3 r g b)
  have hvr : (0 : Rat) < ((max3 r g b : Int) : Rat) := by exact_mod_cast hmx
  have hw0 : (0 : Rat) ≤ ((Nh (r - b) (g - b) - iF (hueF r g b) * (max3 r g b - min3 r g b) : Int) : Rat) := by exact_mod_cast w0
  have hw1 : ((Nh (r - b) (g - b) - iF (hueF r g b) * (max3 r g b - min3 r g b) : Int) : Rat) ≤ ((max3 r g b - min3 r g b : Int) : Rat) := Rat.intCast_le_intCast.mpr w1
  have hφ0 := rat_le_div (c := 0) hRr (by grind : (0 : Rat) * ((max3 r g b - min3 r g b : Int) : Rat) ≤ ((Nh (r - b) (g - b) - iF (hueF r g b) * (max3 r g b - min3 r g b) : Int) : Rat))
  have hφ1 := rat_div_le (c := 1) hRr (by grind : ((Nh (r - b) (g - b) - iF (hueF r g b) * (max3 r g b - min3 r g b) : Int) : Rat) ≤ 1 * ((max3 r g b - min3 r g b : Int) : Rat))
  obtain ⟨e1, e2, e3⟩ := back_alg ((max3 r g b : Int) : Rat) ((max3 r g b - min3 r g b : Int) : Rat) ((Nh (r - b) (g - b) - iF (hueF r g b) * (max3 r g b - min3 r g b) : Int) : Rat)
    (fun q => by rw [q] at hvr; exact absurd hvr (by decide)) (fun q => by rw [q] at hRr; exact absurd hRr (by decide))
  have hsat : satF r g b = divF (max3 r g b - min3 r g b) (max3 r g b) := rfl
  rw [← hsat] at ns
  have S0 := u0
  have q := share_q ns ⟨u0, u1⟩ (nf.mono (by decide +kernel : (50 / 2 ^ 53 : Rat) ≤ 54 / 2 ^ 53)) ⟨hφ0, hφ1⟩
  have t := share_t ns ⟨u0, u1⟩ nf ⟨hφ0, hφ1⟩
  have p := share_p ns ⟨u0, u1⟩
  have b1 := mul_bd (x := ((max3 r g b - min3 r g b : Int) : Rat) / ((max3 r g b : Int) : Rat)) (X := 1) (Y := 1) u1 (by grind) hφ1 (by grind)
  have b2 := Rat.mul_nonneg u0 hφ0
  have b3 := mul_bd (x := ((max3 r g b - min3 r g b : Int) : Rat) / ((max3 r g b : Int) : Rat)) (y := 1 - ((Nh (r - b) (g - b) - iF (hueF r g b) * (max3 r g b - min3 r g b) : Int) : Rat) / ((max3 r g b - min3 r g b : Int) : Rat)) (X := 1) (Y := 1) u1 (by grind) (by grind) (by grind)
  have b4 := Rat.mul_nonneg u0 (show 0 ≤ 1 - ((Nh (r - b) (g - b) - iF (hueF r g b) * (max3 r g b - min3 r g b) : Int) : Rat) / ((max3 r g b - min3 r g b : Int) : Rat) by grind)
  have Q := scale (v := max3 r g b) ⟨by lia, hhi⟩ q (by grind) (by grind)
  have Tn := scale (v := max3 r g b) ⟨by lia, hhi⟩ t (by grind) (by grind)
  have P := scale (v := max3 r g b) ⟨by lia, hhi⟩ p (by grind) (by grind)
  rw [e1] at Q
  rw [e2] at Tn
  rw [e3] at P
  clear e1 e2 e3 q t p b1 b2 b3 b4
  have iq : ((max3 r g b : Int) : Rat) - ((Nh (r - b) (g - b) - iF (hueF r g b) * (max3 r g b - min3 r g b) : Int) : Rat) = ((max3 r g b - (Nh (r - b) (g - b) - iF (hueF r g b) * (max3 r g b - min3 r g b)) : Int) : Rat) := (Rat.intCast_sub ..).symm
  have it : ((max3 r g b : Int) : Rat) - ((max3 r g b - min3 r g b : Int) : Rat) + ((Nh (r - b) (g - b) - iF (hueF r g b) * (max3 r g b - min3 r g b) : Int) : Rat) = ((min3 r g b + (Nh (r - b) (g - b) - iF (hueF r g b) * (max3 r g b - min3 r g b)) : Int) : Rat) := by
    rw [← Rat.intCast_sub, ← Rat.intCast_add]; congr 1; lia
  have ip : ((max3 r g b : Int) : Rat) - ((max3 r g b - min3 r g b : Int) : Rat) = ((min3 r g b : Int) : Rat) := by
    rw [← Rat.intCast_sub]; congr 1; lia
  rw [iq] at Q
  rw [it] at Tn
  rw [ip] at P
  have nq := near_of (by lia) Q
  have nt := near_of (by lia) Tn
  have np := near_of (by lia) P
  have hb0 : (cmp (satF r g b) 0 == some .eq) = false := by
    have hlt : 0 < rv (satF r g b) := by
      have c : 1 / 1048576 ≤ ((max3 r g b - min3 r g b : Int) : Rat) / ((max3 r g b : Int) : Rat) := rat_le_div hvr (by
        have x1 : (1 : Rat) ≤ ((max3 r g b - min3 r g b : Int) : Rat) := by exact_mod_cast (by lia : 1 ≤ max3 r g b - min3 r g b)
        have x2 : ((max3 r g b : Int) : Rat) ≤ 1048576 := Rat.intCast_le_intCast.mpr (by lia : max3 r g b ≤ 1048576)
        grind)
      have := ns.lo
      grind
    rw [Flt.cmp_zero_r, cmpInt_gt ns.fin (i := 0) hlt]; rfl
  refine ⟨n.fin, ns.fin, f6, hb0, by lia, ?_⟩
  have hqd : qF (hueF r g b) (satF r g b) (max3 r g b) = mul (ofInt (max3 r g b)) (sub one (mul (satF r g b) (fF (hueF r g b)))) := by unfold qF; rw [one_eq]
  have htd : tF (hueF r g b) (satF r g b) (max3 r g b) = mul (ofInt (max3 r g b)) (sub one (mul (satF r g b) (sub one (fF (hueF r g b))))) := by unfold tF; rw [one_eq]
  have hpd : pF (satF r g b) (max3 r g b) = mul (ofInt (max3 r g b)) (sub one (satF r g b)) := by unfold pF; rw [one_eq]
  rw [← hqd] at nq
  rw [← htd] at nt
  rw [← hpd] at np
  generalize Nh (r - b) (g - b) - iF (hueF r g b) * (max3 r g b - min3 r g b) = w at *
  unfold h2r
  generalize qF (hueF r g b) (satF r g b) (max3 r g b) = qf at *
  generalize tF (hueF r g b) (satF r g b) (max3 r g b) = tf at *
  generalize pF (satF r g b) (max3 r g b) = pf at *
  generalize iF (hueF r g b) = T at *
  rcases hgeo with ⟨rfl, c1, c2, c3⟩ | ⟨rfl, c1, c2, c3⟩ | ⟨rfl, c1, c2, c3⟩ | ⟨rfl, c1, c2, c3⟩ | ⟨rfl, c1, c2, c3⟩ | ⟨rfl, c1, c2, c3⟩
  · rw [if_pos (by decide)]
    exact ⟨by show OkN (.i (max3 r g b)) r; rw [← c1]; exact okN_int r, (c2 ▸ nt : Near tf g).ok, (c3 ▸ np : Near pf b).ok⟩
  · rw [if_neg (by decide), if_pos (by decide)]
    exact ⟨(c1 ▸ nq : Near qf r).ok, by show OkN (.i (max3 r g b)) g; rw [← c2]; exact okN_int g, (c3 ▸ np : Near pf b).ok⟩
  · rw [if_neg (by decide), if_neg (by decide), if_pos (by decide)]
    exact ⟨(c1 ▸ np : Near pf r).ok, by show OkN (.i (max3 r g b)) g; rw [← c2]; exact okN_int g, (c3 ▸ nt : Near tf b).ok⟩
  · rw [if_neg (by decide), if_neg (by decide), if_neg (by decide), if_pos (by decide)]
    exact ⟨(c1 ▸ np : Near pf r).ok, (c2 ▸ nq : Near qf g).ok, by show OkN (.i (max3 r g b)) b; rw [← c3]; exact okN_int b⟩
  · rw [if_neg (by decide), if_neg (by decide), if_neg (by decide), if_neg (by decide), if_pos (by decide)]
    exact ⟨(c1 ▸ nt : Near tf r).ok, (c2 ▸ np : Near pf g).ok, by show OkN (.i (max3 r g b)) b; rw [← c3]; exact okN_int b⟩
  · rw [if_neg (by decide), if_neg (by decide), if_neg (by decide), if_neg (by decide), if_neg (by decide)]
    exact ⟨by show OkN (.i (max3 r g b)) r; rw [← c1]; exact okN_int r, (c2 ▸ np : Near pf g).ok, (c3 ▸ nq : Near qf b).ok⟩
end
end
section
/-! what the law asks of a ring, said plainly and shown -/
open PySem
set_option Elab.async false
set_option maxHeartbeats 1000000
section
theorem ring_col {row : List Int} (hR : Ring row) {grey : Int} (hg : 0 ≤ grey ∧ grey < 100) {k : Nat} (hk : k < row.length) : Col (colS (ptS row k) grey).1 (colS (ptS row k) grey).2.1 (colS (ptS row k) grey).2.2 := by
  have h := col_ok hR hg hk
  have hs : Small (ptS row k) := hR.small k (by omega)
  generalize ptS row k = M at *
  simp only [Small] at hs
  refine ⟨h.lo, h.hi, h.ne, ?_⟩
  simp only [colS]
  have hm := max3_le (M.1 - (min3 M.1 M.2.1 0 - grey)) (M.2.1 - (min3 M.1 M.2.1 0 - grey)) (-(min3 M.1 M.2.1 0 - grey))
  have hn := min3_le (M.1 - (min3 M.1 M.2.1 0 - grey)) (M.2.1 - (min3 M.1 M.2.1 0 - grey)) (-(min3 M.1 M.2.1 0 - grey))
  omega
theorem col_xy (M : S4) (grey : Int) : (colS M grey).1 - (colS M grey).2.2 = M.1 ∧ (colS M grey).2.1 - (colS M grey).2.2 = M.2.1 := by
  simp only [colS]; lia
theorem ring_det {row : List Int} (hR : Ring row) (grey : Int) {k : Nat} (hk : k < row.length) :
    ((colS (ptS row (prevI row.length k)) grey).1 - (colS (ptS row (prevI row.length k)) grey).2.2) * ((colS (ptS row k) grey).2.1 - (colS (ptS row k) grey).2.2) - ((colS (ptS row (prevI row.length k)) grey).2.1 - (colS (ptS row (prevI row.length k)) grey).2.2) * ((colS (ptS row k) grey).1 - (colS (ptS row k) grey).2.2) = 1 := by
  rw [(col_xy _ _).1, (col_xy _ _).2, (col_xy _ _).1, (col_xy _ _).2, ptS_prev hR hk]
  exact det_walk (row.take (prevI row.length k))
theorem plainStep {row : List Int} (hR : Ring row) {grey : Int} (hg : 0 ≤ grey ∧ grey < 100) {k : Nat} (hk : k < row.length) : StepOk (hueF (colS (ptS row k) grey).1 (colS (ptS row k) grey).2.1 (colS (ptS row k) grey).2.2) (hueF (colS (ptS row (prevI row.length k)) grey).1 (colS (ptS row (prevI row.length k)) grey).2.1 (colS (ptS row (prevI row.length k)) grey).2.2) :=
  step_ok (ring_col hR hg (prev_lt hk)) (ring_col hR hg hk) (ring_det hR grey hk)
theorem plainRT {row : List Int} (hR : Ring row) {grey : Int} (hg : 0 ≤ grey ∧ grey < 100) {k : Nat} (hk : k < row.length) : RT (colS (ptS row k) grey).1 (colS (ptS row k) grey).2.1 (colS (ptS row k) grey).2.2 :=
  rt_ok (ring_col hR hg hk)
theorem turn_iff {row : List Int} (hR : Ring row) {grey : Int} (hg : 0 ≤ grey ∧ grey < 100) {k : Nat} (hk : k < row.length) :
    (Float64.cmp (hueF (colS (ptS row k) grey).1 (colS (ptS row k) grey).2.1 (colS (ptS row k) grey).2.2) (hueF (colS (ptS row (prevI row.length k)) grey).1 (colS (ptS row (prevI row.length k)) grey).2.1 (colS (ptS row (prevI row.length k)) grey).2.2) == some Ordering.lt) = dscB (walkS (row.take (prevI row.length k))) := by
  rw [hue_lt (ring_col hR hg (prev_lt hk)) (ring_col hR hg hk) (ring_det hR grey hk), (col_xy _ _).2, (col_xy _ _).2, ptS_prev hR hk]
  rfl
theorem plain12 {row : List Int} (hR : Ring row) {grey : Int} (hg : 0 ≤ grey ∧ grey < 100) :
    12 * (((List.range row.length).countP fun i => Float64.cmp (hueF (colS (ptS row i) grey).1 (colS (ptS row i) grey).2.1 (colS (ptS row i) grey).2.2) (hueF (colS (ptS row (prevI row.length i)) grey).1 (colS (ptS row (prevI row.length i)) grey).2.1 (colS (ptS row (prevI row.length i)) grey).2.2) == some Ordering.lt : Nat) : Int)
      = 3 * (row.length : Int) - ((List.range row.length).map fun j => (divAt ((List.range row.length).map fun k => ((ptS row k).1, (ptS row k).2.1)) j).1).sum := by
  rw [quot_sum hR]
  have h := ring_twelve hR
  rw [← count_shift (fun k => dscB (walkS (row.take k)))] at h
  rw [← h]
  congr 2
  refine List.countP_congr fun i hi => ?_
  rw [turn_iff hR hg (List.mem_range.mp hi)]
end
end
section
theorem t_law : PySem.Challenge.rw_rl0058_01.Holds := Mine.hd rfl rfl rfl (by
  k_with_none
  k_with "my fold" => ((try (with_reducible refine GTurn.letG ?_; intro gk)); (try (show wpAny _ _ _ _ _ _; k_fold)))
  k_with "my steps" => (walk_at "my fold"; repeat' (first | (k_unfold; (try dsimp only)) | (k_end; wrow_close) | walk1 | (dsimp only; walk1) | (leave1; walk_say "STEP leave1"; try dsimp only) | fail "no step"))
  k_with "my pick" => first | with_reducible assumption | with_reducible exact And.left (by assumption) | with_reducible exact And.left (And.right (by assumption)) | with_reducible exact And.left (And.right (And.right (by assumption))) | with_reducible exact And.left (And.right (And.right (And.right (by assumption)))) | with_reducible exact And.left (And.right (And.right (And.right (And.right (by assumption))))) | with_reducible exact And.left (And.right (And.right (And.right (And.right (And.right (by assumption)))))) | with_reducible exact And.left (And.right (And.right (And.right (And.right (And.right (And.right (by assumption))))))) | with_reducible exact And.left (And.right (And.right (And.right (And.right (And.right (And.right (And.right (by assumption)))))))) | with_reducible exact And.left (And.right (And.right (And.right (And.right (And.right (And.right (And.right (And.right (by assumption))))))))) | with_reducible exact And.left (And.right (And.right (And.right (And.right (And.right (And.right (And.right (And.right (And.right (by assumption)))))))))) | with_reducible exact And.left (And.right (And.right (And.right (And.right (And.right (And.right (And.right (And.right (And.right (And.right (by assumption)))))))))))
  k_with "my ne" => first | exact Nat.ne_of_gt (by walk_at "my pick") | exact Nat.ne_of_lt (by walk_at "my pick") | walk_at "my pick" | exact Ne.symm (by walk_at "my pick")
  k_with "my kn" => (first | walk_at "my ne" | omega)
  k_with "my kne" => (refine neN ?_; (try dsimp only); walk_at "my kn")
  k_with "eval Name" => (k_here; k_dflt (refine' nameX_L ?Fw6 ?vw6 ?_ ?aw6 ?bw6; (case Fw6 => k_asm); (case aw6 => rfl); (case bw6 => rfl); (case vw6 => exact Eq.refl (some _)); k_whole))
  k_with "execs cons" => ((show wpAny _ _ _ _ _ _); k_fold)
  k_with "call builtin:max" => ((with_reducible show wpAny _ _ (call (Value.builtin "max") [Value.int _ _, Value.int _ _, Value.int _ _]) _ _ _); (with_unfolding_all refine' max3_N ?k0w8 ?k1w8 ?k2w8 ?_; (case k0w8 => rfl); (case k1w8 => k_asm); (case k2w8 => k_asm); k_whole); walk_at "my in5"; (try k_sweep))
  k_with "call builtin:min" => ((with_reducible show wpAny _ _ (call (Value.builtin "min") [Value.int _ _, Value.int _ _, Value.int _ _]) _ _ _); (with_unfolding_all refine' min3_N ?k0w9 ?k1w9 ?k2w9 ?_; (case k0w9 => rfl); (case k1w9 => k_asm); (case k2w9 => k_asm); k_whole); walk_at "my in5"; (try k_sweep))
  k_with "call builtin:list.append" => ((show wpAny _ _ (call (Value.builtin "list.append") [Value.ref _, _]) _ _ _); k_dflt (refine' append_K ?k1w10 ?k2w10 ?k3w10 ?_ ?zw10; (case k1w10 => k_asm); (case k2w10 => k_asm); (case k3w10 => k_upd); (case zw10 => size_fits); k_whole); walk_at "my in3"; (try k_sweep))
  k_with "my enter" => (k_dflt (refine' enter ?Xw11 ?Tw11 ?hdw11 ?how11 ?hcdw11 ?hbw11 ?hlw11 ?hcw11 ?c1w11 ?c2w11 ?c3w11 ?_; (case Xw11 => assumption); (case Tw11 => assumption); (case hdw11 => (show _ < 1000; omega)); (case how11 => k_is); (case hcdw11 => k_is); (case hbw11 => exact BindsTo.of_eq rfl); (case hlw11 => exact locs rfl); (case hcw11 => decide); (case c1w11 => rfl); (case c2w11 => rfl); (case c3w11 => rfl); k_whole); walk_at "my inL"; (try dsimp only); (try k_fold))
  k_with "my enterC" => (k_dflt (refine' enterC ?Xw12 ?Tw12 ?hdw12 ?how12 ?hcdw12 ?hbw12 ?hlw12 ?hnw12 ?c1w12 ?c2w12 ?c3w12 ?_; (case Xw12 => assumption); (case Tw12 => assumption); (case hdw12 => (show _ < 1000; omega)); (case how12 => k_is); (case hcdw12 => k_is); (case hbw12 => exact BindsTo.of_eq rfl); (case hlw12 => rfl); (case hnw12 => decide +kernel); (case c1w12 => rfl); (case c2w12 => rfl); (case c3w12 => rfl); k_whole); walk_at "my inC"; (try dsimp only); (try k_fold))
  k_with "my end" => ((try dsimp only); (try k_unfold); (try dsimp only))
  k_with "call builtin:list.extend" => ((show wpAny _ _ (call (Value.builtin "list.extend") [Value.ref _, Value.ref _]) _ _ _); k_dflt (refine' extend_my ?k1w14 ?k2w14 ?k3w14 ?k4w14 ?zw14 ?_; (case k1w14 => k_asm); (case k2w14 => k_asm); (case k3w14 => k_updF); (case k4w14 => k_mem); (case zw14 => (simp only [PySem.sizeLine_eq, List.length_append, List.length_cons, List.length_nil]; omega)); k_whole); walk_at "my inX"; (try k_sweep))
  k_with "my sub" => repeat (first | exact List.forall_mem_nil _ | (refine List.forall_mem_cons.mpr ⟨by k_mem, ?_⟩))
  k_with "call ref" => ((with_reducible show wpAny _ _ (call (Value.ref _) _) _ _ _); refine Hold.out ?_)
  k_with "exec Assign cons ListComp" => refine Hold.out ?_
  k_with "exec Assign" => ((with_reducible show wpAny _ _ (exec (Stmt.Assign _ (Expr.ListComp _ _ _ _) _) _) _ _ _); refine Hold.out ?_)
  k_with "call type:enumerate" => ((with_reducible show wpAny _ _ (call (Value.type _) [Value.ref _]) _ _ _); refine Hold.out ?_)
  k_with "compareOp NotEq ref ref" => ((with_reducible show wpAny _ _ (compareOp CmpOp.NotEq (Value.ref _) (Value.ref _)) _ _ _); refine Hold.out ?_)
  k_with "storeName" => ((with_reducible show wpAny _ _ (storeName _ (Str.ofString "told") _) _ _ _); refine Hold.out ?_)
  k_with "storeName" => ((with_reducible show wpAny _ _ (storeName _ (Str.ofString "hues") _) _ _ _); refine Hold.out ?_)
  k_with "call builtin:len" => ((with_reducible show wpAny _ _ (call (Value.builtin "len") [Value.ref _]) _ _ _); refine Hold.out ?_)
  k_with "call type:range" => ((with_reducible show wpAny _ _ (call (Value.type _) [Value.int _ _, Value.int _ _, Value.int _ _]) _ _ _); refine Hold.out ?_)
  k_with "subscriptTail Name Slice ref ref" => ((with_reducible show wpAny _ _ (subscriptTail _ (PySem.Expr.Slice (some _) (some _) none _) (Value.ref _) (Value.ref _)) _ _ _); refine Hold.out ?_)
  k_with "eval ListComp" => refine Hold.out ?_
  k_with "Exists" => ((with_reducible show ∃ m, SrcGL _ _ _ _ _ m _ _ _ _ _ _ _ _ _ _ ∨ _); refine Hold.out ?_)
  k_with "subscriptTail Name Name ref int" => ((with_reducible show wpAny _ _ (subscriptTail _ _ (Value.ref _) (Value.int _ _)) _ _ _); k_dflt (refine' item_any ?hlw28 ?hxw28 ?hkw28 ?hnw28 ?_ ?hsw28; (case hlw28 => is_list); (case hkw28 => assumption); (case hxw28 => assumption); (case hnw28 => omega); (case hsw28 => with_unfolding_all rfl); k_whole))
  k_with "subscriptTail Name BinOp ref int" => ((with_reducible show wpAny _ _ (subscriptTail _ _ (Value.ref _) (Value.int _ _)) _ _ _); k_dflt (refine' item_any ?hlw29 ?hxw29 ?hkw29 ?hnw29 ?_ ?hsw29; (case hlw29 => is_list); (case hkw29 => assumption); (case hxw29 => assumption); (case hnw29 => omega); (case hsw29 => with_unfolding_all rfl); k_whole))
  k_with "pyIter ref" => ((with_reducible show wpAny _ _ (pyIter (Value.ref _)) (fun it s₂ => LoopAtV _ _ _ _ _ _ _ _ _ it s₂) _ _); refine Hold.out ?_)
  k_with "subscriptTail Subscript Name Name Constant ref int" => ((with_reducible show wpAny _ _ (subscriptTail _ _ (Value.ref _) (Value.int _ _)) _ _ _); first
      | k_dflt (refine' item_tupleT (l := [_, _, _]) ?ht ?lo ?hi ?hj ?hx ?_; (case ht => exact ⟨_, News.get (by k_asm) (by k_mem), rfl, 0, rfl⟩); (case lo => decide); (case hi => decide); (case hj => exact rfl); (case hx => exact rfl); k_whole)
      | k_dflt (refine' item_any (vs := [_, _, _]) (j := Int.toNat _) ?hl ?hx ?hk ?hn ?_ ?hs; (case hl => is_list); (case hk => exact .inl rfl); (case hx => exact rfl); (case hn => decide); (case hs => with_unfolding_all rfl); k_whole))
  k_with "call builtin:max" => ((with_reducible show wpAny _ _ (call (Value.builtin "max") [_, _, _]) _ _ _); refine Hold.out ?_)
  k_with "binaryOp Sub float int" => (refine sub_fi_fits (by omega) ?_; try dsimp only)
  k_with "binaryOp Mult float int" => (refine mul_fi_fits (by omega) ?_; try dsimp only)
  k_with "binaryOp Sub int" => ((with_reducible show wpAny _ _ (binaryOp _ (numV _ _) (Value.int _ _)) _ _ _); refine sub_N (by omega) (fun _ _ => ?_); try dsimp only)
  k_with "call builtin:abs" => ((with_reducible show wpAny _ _ (call (Value.builtin "abs") [numV _ _]) _ _ _); refine abs_N (fun _ _ => ?_); try dsimp only)
  k_with "binaryOp Mult int" => ((with_reducible show wpAny _ _ (binaryOp _ (numV _ _) (Value.int _ _)) _ _ _); refine mul_N (by assumption) (by decide) (fun _ _ => ?_); try dsimp only)
  k_with "compareOp GtE int" => ((with_reducible show wpAny _ _ (compareOp _ (numV _ _) (Value.int _ _)) _ _ _); refine ge_N ?_)
  k_go0
  (all_goals try k_fold)
  walk_at "my steps"
  refine Hold.mk ?_
  rename Fr _ _ _ _ => F0
  rename News _ _ _ _ => N0
  rename Below _ _ _ _ => K0
  rename Top _ _ _ _ _ _ => T0
  rename Frag.In _ _ => X0
  rename IntsAre _ _ => hI0
  rename_i wH wT wS dH dT dS xC xD l0
  rename Shared => s1
  rename CodeHd _ (48, 44).fst (48, 44).snd => C48
  rename CodeHd _ (55, 51).fst (55, 51).snd => C55
  refine Assign_enum F0 rfl ?hsw rfl ?hcell rfl ?hnames rfl rfl rfl rfl ?hxx rfl ?h
  case hsw => with_unfolding_all rfl
  case hcell => decide
  case hnames => decide
  case hxx => decide
  case h =>
    walk_at "my steps"
    refine Hold.mk ?_
    (try k_fold)
    rename Fr _ _ _ _ => F1
    rename News _ _ _ _ => N1
    refine enum_my F1 N1 ⟨_, News.get N1 (.head _), rfl, _, rfl⟩ fun e it h2 F2 N2 H2 => ?_
    refine ⟨_, e, it, _, _, [6, 5, 7, 5, 6], _, fun q => -4 ≤ q ∧ q ≤ 7, rfl, F2, N2, H2, .inr ⟨_, .head _, rfl, _, rfl⟩, .cons _ _ (.cons _ _ (.cons _ _ (.cons _ _ (.cons _ _ .nil)))), ?_, ?_, ?_⟩
    · rw [PySem.sizeLine_eq]; exact Nat.le_of_ble_eq_true rfl
    · intro i n t t2 I oI I2 oI2 C oC D ys m₂ ex s' E' hn hmk hms hC F3 N3 off3 off4 ne3
      walk_at "my fold"
      simp only [List.cons_append, List.nil_append] at N3
      walk_at "my steps"
      rename News _ _ _ _ => N4
      rename Fr _ _ _ _ => F4
      refine sum_some rfl F4 N4 ⟨_, News.get N4 (.head _), rfl, _, rfl⟩ (allInts_pick hI0.allInts) fun z h5 tk5 t5 F5 N5 => ?_
      walk_at "my steps"
      exact ⟨h5, _, [], rfl, F5, fun p hp => N5 p (.tail _ hp), trivial, trivial, trivial⟩
    · intro D h3 tk3 ys e3 qs F3 N3 l3 hqI hql hq
      have l3r := l3
      dsimp only [AllNe] at l3
      walk_at "my steps"
      refine Hold.mk ?_
      (try k_fold)
      have G0 : Gd _ _ _ _ _ _ := ⟨X0, T0, C48, C55, hideAll_none _ (.tail _ (.head _)), hideAll_none _ (.head _)⟩
      refine back_use (dp := 302) (un := _) (fr := some [_]) (gd := some []) (vs := ys) X0 T0 (by decide) ?hun F3 N3 ?hL hqI hql hq ?hK
      case hun => decide
      case hL => exact ⟨_, News.get N3 (.head _), rfl, _, rfl⟩
      case hK =>
        intro D1 h4 tk4 rs4 e4 row F4 N4 l4 hI4 hR4
        have l4r := l4
        dsimp only [AllNe] at l4
        walk_at "my steps"
        refine Hold.mk ?_
        (try k_fold)
        rename News _ _ _ _ => N5
        rename Fr _ _ _ _ => F5
        refine parts_use (dp := 302) (un := _) (fr := some [_]) (gd := some []) (vs := rs4) X0 T0 (by decide) F5 N5 ?hL hI4 hR4 ?hK
        case hL => exact ⟨_, News.get N5 (by k_mem), rfl, _, rfl⟩
        case hK =>
          intro D2 h6 tk6 rs6 e6 F6 N6 l6 hI6
          have l6r := l6
          dsimp only [AllNe] at l6
          walk_at "my steps"
          refine Hold.mk ?_
          (try k_fold)
          rename News _ _ _ _ => N7
          rename Fr _ _ _ _ => F7
          generalize hgr : Int.fmod _ 100 = grey at hI6
          have hg0 : 0 ≤ grey ∧ grey < 100 := hgr ▸ ⟨Int.fmod_nonneg_of_pos _ (by decide), Int.fmod_lt_of_pos _ (by decide)⟩
          refine' read_use (dp := 302) (un := _) (gd := some []) (vs := rs6) (ns := partsOf grey row) G0 (by decide) F7 N7 ?hU rfl ?hk0 ?hL hI6 (parts_small hR4 hg0) ?hlen ?hne ?hK
          case hU => k_updF
          case hk0 => exact (by (show ScopeKind.function ≠ ScopeKind.module); decide)
          case hL => exact ⟨_, News.get N7 (by k_mem), rfl, _, rfl⟩
          case hlen => rw [partsOf_length]; have := hR4.short; omega
          case hne => intro q; have h1 := congrArg List.length q; rw [partsOf_length] at h1; have h2 := hR4.pos; have h3 : ([] : List Int).length = 0 := rfl; omega
          case hK =>
            intro D3 h8 tk8 rs8 e8 c8 oc8 us8 uq8 F8 N8 l8 lc8 hd8 hu8 hI8
            have l8r := l8
            have lc8r := lc8
            dsimp only [AllNe] at l8 lc8
            walk_at "my steps"
            refine Hold.mk ?_
            (try k_fold)
            refine' storeX_C F8 N8 rfl ?U8 ?d8 ?_
            case U8 => exact UpdF.tail (p := (_, _)) (allNe_mem l8r (_, wT) (by k_mem)).symm (UpdF.tail (p := (_, _)) (allNe_mem lc8r (_, wT) (by k_mem)).symm (UpdF.tail (p := (_, _)) (allNe_mem l6r (_, wT) (by k_mem)).symm (UpdF.tail (p := (_, _)) (allNe_mem l4r (_, wT) (by k_mem)).symm (UpdF.tail (p := (_, _)) (allNe_mem l3r (_, wT) (by k_mem)).symm (by k_updF)))))
            case d8 => k_asm
            intro h9 o9 F9 N9 d9
            walk_at "my steps"
            refine Hold.mk ?_
            (try k_fold)
            refine ke_ne_ints ⟨_, News.get N9 (by k_mem), rfl, _, rfl⟩ ⟨_, News.get N9 (by k_mem), rfl, _, rfl⟩ hI8 hI6 (by ke_room) ?_
            simp only [decide_true, Bool.not_true]
            walk_at "my steps"
            refine Hold.mk ?_
            (try k_fold)
            rename Fr _ _ _ _ => F10
            refine Assign_ListComp_G F10 rfl ?hsw rfl ?hcell rfl ?hnames rfl rfl ?h
            case hsw => with_unfolding_all rfl
            case hcell => decide
            case hnames => decide
            case h =>
            walk_at "my steps"
            refine Hold.mk ?_
            (try k_fold)
            refine len_my N9 (.head _) ?hf8 ?hl8
            case hf8 => rw [hI8.length, partsOf_length]; have := hR4.short; omega
            case hl8 =>
            rw [hI8.length, partsOf_length]
            walk_at "my steps"
            refine Hold.mk ?_
            (try k_fold)
            have hsh := hR4.short
            refine range3_rows F10 N9 (by decide) (fun h10 tk10 t10 u10 v10 hr10 F11 N10 hk10 => ?_) (.inl (PyProof.noPylong_small (by omega)))
            refine ⟨_, .inr (srcGR_any (n := row.length) (fun i v e => ∃ D' xs e', v = .ref D' ∧ IntsAre xs [(colS (ptS row i) grey).1, (colS (ptS row i) grey).2.1, (colS (ptS row i) grey).2.2] ∧ e = [(D', lstObj xs e')]) rfl F11 N10 hr10 ?hsm ?hrs ?hsz rfl rfl ?el ?fin)⟩
            case hsm => exact small_my (by omega) (by omega) (by omega)
            case hrs => unfold Builtin.Range.rangeSize; rw [if_pos (by decide)]; simp only [Int.sub_zero]; omega
            case hsz => rw [PySem.sizeLine_eq]; omega
            case el =>
              intro i t I oI C oC D ys m₂ ex s' E' hi hm hC F11 N11 off11 ne11
              walk_at "my fold"
              simp only [List.cons_append, List.nil_append] at N11
              walk_at "my steps"
              refine Hold.mk ?_
              (try k_fold)
              rename News _ _ _ _ => N12
              rename Fr _ _ _ _ => F12
              k_dflt (refine' slice_my ?qF ?qN ?qL (.int _ _) (.int _ _) .none ?qz ?qe ?_ ?qs ?qt ?qy; (case qF => exact F12); (case qN => exact N12); (case qL => exact ⟨_, News.get N12 (by k_mem), rfl, _, rfl⟩); (case qz => decide); (case qe => exact rfl); (case qs => with_unfolding_all rfl); (case qt => kmk_pure); (case qy => (rw [PySem.sizeLine_eq, hI8.length, partsOf_length]; omega)))
              intro Ds hs Fs Ns ls
              have hIs := kmk_run hI8 (x := 0 + (i : Int) * 3) (y := 0 + (i : Int) * 3 + 3) (by omega) (by omega)
              rw [show (0 + (i : Int) * 3).toNat = 3 * i by omega, partsOf_length, show min (0 + (i : Int) * 3 + 3).toNat (3 * row.length) - 3 * i = 3 by omega, parts_take3 grey hi] at hIs
              exact gend_one Fs Ns (allNe_of fun p hp => Nat.ne_of_lt (ls p hp)) ⟨Ds, _, 0, rfl, hIs, rfl⟩
            case fin =>
              intro D4 h11 tk11 ys4 e11 ex4 F12 N12 l12 hl12 hy12
              have hCO : ColObjs (fun j => colS (ptS row j) grey) row.length ys4 ex4 := ⟨hl12, fun j y hj => by obtain ⟨e', ⟨D', xs, e'', h1, h2, rfl⟩, h3⟩ := hy12 j y hj; exact ⟨D', xs, e'', h1, h2, h3 _ (.head _)⟩⟩
              have l12r := l12
              clear hy12
              have N12' : News _ _ _ (((D4, lstObj ys4 e11) :: _) ++ ex4) := N12
              obtain ⟨ex5, N13, hn5, hCO5⟩ := hCO.filter N12' [51, s1.heap.objs.size + 1 + 1 + 1] (by
                intro b hb
                rcases List.mem_cons.mp hb with rfl | hb
                · exact ⟨tabObj #[], by k_mem, fun its e q => by cases q⟩
                · rw [List.mem_singleton.mp hb]
                  exact ⟨wH, by k_mem, fun its e q => by rw [dH] at q; cases q⟩)
              clear N12 N12' hCO
              simp only [List.cons_append, List.nil_append] at N13
              have b51 : AllNe 51 ex5 := hn5 _ (.head _)
              have bH : AllNe (s1.heap.objs.size + 1 + 1 + 1) ex5 := hn5 _ (.tail _ (.head _))
              walk_at "my steps"
              refine Hold.mk ?_
              (try k_fold)
              refine ListComp_G (cl := []) F12 rfl (by decide) rfl (by decide) ?_
              walk_at "my steps"
              refine .inl (srcGL_any (its := ys4.toArray) (fun i v e => ∃ D' t1 t2, v = .ref D' ∧ e = [(D', tup2 (.int ((colS (ptS row i) grey).1 - (colS (ptS row i) grey).2.2) t1) (.int ((colS (ptS row i) grey).2.1 - (colS (ptS row i) grey).2.2) t2))]) rfl F12 N13 (.inr ⟨_, .head _, rfl, _, rfl⟩) ?qz (fun I => asg_threeW _ rfl rfl rfl rfl (by decide) (by decide) (by decide) rfl (fun i v _ hv => hCO5.seq (fun p hp => ?qm) i v hv)) ?qe ?qf)
              case qz => rw [PySem.sizeLine_eq, List.size_toArray, hl12]; omega
              case qm => (repeat first | exact hp | refine List.Mem.tail _ ?_)
              case qe =>
                intro i I oI C oC D ys m₂ ex s' E' hi hB hC F13 N13 off13 ne13
                walk_at "my fold"
                obtain ⟨_, _, _, ⟨t1, t2, t3, rfl, rfl, rfl⟩, hm1, hm2, hm3⟩ := hB
                simp only [List.cons_append, List.nil_append] at N13
                walk_at "my steps"
                rename News _ _ _ _ => N14
                rename Fr _ _ _ _ => F14
                exact gend_one3 F14 N14 (neN (by walk_at "my kn")) (neN (by walk_at "my kn")) (neN (by walk_at "my kn")) ⟨_, _, _, rfl, rfl⟩
              case qf =>
                intro D5 h12 tk12 ys5 e12 ex6 F14 N14 l14 hl14 hy14
                have hPt : PtsAre h12 ys5 ((List.range row.length).map fun k => ((ptS row k).1, (ptS row k).2.1)) := ⟨by simp only [List.length_map, List.length_range, hl14, List.size_toArray, hl12], fun i hi => by
                  have hi' : i < ys5.length := by rw [hl14, List.size_toArray, hl12]; simpa using hi
                  obtain ⟨e', ⟨D', t1, t2, e1, rfl⟩, h2⟩ := hy14 i _ (List.getElem?_eq_getElem hi')
                  refine ⟨D', t1, t2, by rw [List.getElem?_eq_getElem hi', e1], ?_⟩
                  have := (N14 _ (.tail _ (List.mem_append_right _ (h2 _ (.head _))))).1
                  simp only [List.getElem_map, List.getElem_range]
                  rw [this]
                  simp only [colS]
                  rw [show ∀ x l : Int, x - l - -l = x from fun x l => by omega, show ∀ x l : Int, x - l - -l = x from fun x l => by omega]⟩
                have N15 := news_front N14
                clear N14 hy14
                have l14r := l14
                dsimp only [AllNe] at l14
                walk_at "my steps"
                refine Hold.mk ?_
                (try k_fold)
                rename Fr _ _ _ _ => F14
                refine' div_use (dp := 302) (un := _) (fr := some [_]) (gd := some []) (vs := ys5) (ps := (List.range row.length).map fun k => ((ptS row k).1, (ptS row k).2.1)) G0 ?qd F14 N15 ?qu ?q44 ?qL hPt ?qn ?qe ?qb ?qK
                case qd => decide
                case qu => exact UpdF.tail (p := (_, _)) (allNe_mem l14r (51, tabObj #[]) (by k_mem)).symm (UpdF.tail (p := (_, _)) (allNe_mem l12r (51, tabObj #[]) (by k_mem)).symm (UpdF.tail (p := (_, _)) (allNe_mem l8r (51, tabObj #[]) (by k_mem)).symm (UpdF.tail (p := (_, _)) (allNe_mem lc8r (51, tabObj #[]) (by k_mem)).symm (UpdF.tail (p := (_, _)) (allNe_mem l6r (51, tabObj #[]) (by k_mem)).symm (UpdF.tail (p := (_, _)) (allNe_mem l4r (51, tabObj #[]) (by k_mem)).symm (UpdF.tail (p := (_, _)) (allNe_mem l3r (51, tabObj #[]) (by k_mem)).symm (UpdF.tail (p := (_, _)) (neN (by walk_at "my kn")) (UpdF.tail (p := (_, _)) (neN (by walk_at "my kn")) (UpdF.tail (p := (_, _)) (neN (by walk_at "my kn")) (UpdF.tail (p := (_, _)) (neN (by walk_at "my kn")) (UpdF.head (fun p hp => by
                  rcases List.mem_cons.mp hp with rfl | hp
                  · exact (by decide : (44 : Nat) ≠ 51)
                  · exact allNe_mem b51 p hp))))))))))))
                case q44 => exact ⟨c8, News.get N15 (by k_mem), c8, oc8, us8, uq8, rfl, News.get N15 (by k_mem), hd8, hu8⟩
                case qL => exact ⟨_, News.get N15 (.head _), rfl, _, rfl⟩
                case qn => simp; omega
                case qe => intro q; have h1 := congrArg List.length q; simp only [List.length_map, List.length_range, List.length_nil] at h1; have h2 := hR4.pos; omega
                case qb =>
                  intro p hp
                  obtain ⟨k, hk, rfl⟩ := List.mem_map.mp hp
                  have hs := hR4.small k (Nat.le_of_lt (List.mem_range.mp hk))
                  simp only [Small] at hs
                  have hn := pt_ne (row := row) (k := k)
                  exact ⟨hs.1, hs.2.1, hs.2.2.1, hs.2.2.2.1, hn⟩
                case qK =>
                intro D6 h13 tk13 rs6 e13 c13 oc13 us13 uq13 ex6 F16 N16 l16 lc16 hd13 hu13 hl16 hP16
                have hPO : PairObjs (divAt ((List.range row.length).map fun k => ((ptS row k).1, (ptS row k).2.1))) row.length rs6 ex6 := ⟨by rw [hl16]; simp, fun j hj => hP16 j (by simpa using hj)⟩
                clear hP16
                have N16' : News _ _ _ ((_ :: _ :: _) ++ ex6) := N16
                obtain ⟨ex7, N17, hn7, hPO7⟩ := hPO.filter N16' [s1.heap.objs.size + 1 + 1 + 1] (by
                    intro b hb
                    rw [List.mem_singleton.mp hb]
                    exact ⟨wH, by k_mem, fun its q => by rw [dH] at q; cases q⟩)
                have bH7 := hn7 _ (.head _)
                clear N16 N16' hPO
                simp only [List.cons_append, List.nil_append] at N17
                have l16r := l16
                have lc16r := lc16
                dsimp only [AllNe] at l16 lc16
                walk_at "my steps"
                refine Hold.mk ?_
                (try k_fold)
                rename News _ _ _ _ => N18
                rename Fr _ _ _ _ => F18
                refine Assign_ListComp_G F18 rfl ?hsw rfl ?hcell rfl ?hnames rfl rfl ?h
                case hsw => with_unfolding_all rfl
                case hcell => decide
                case hnames => decide
                case h =>
                walk_at "my steps"
                refine Hold.mk ?_
                (try k_fold)
                refine ⟨_, .inl (srcGL_any (its := ys4.toArray) (fun i v e => ∃ D' t1 t2 t3, v = .ref D' ∧ e = [(D', tup3 (.float (hueF (colS (ptS row i) grey).1 (colS (ptS row i) grey).2.1 (colS (ptS row i) grey).2.2) t1) (.float (satF (colS (ptS row i) grey).1 (colS (ptS row i) grey).2.1 (colS (ptS row i) grey).2.2) t2) (.int (max3 (colS (ptS row i) grey).1 (colS (ptS row i) grey).2.1 (colS (ptS row i) grey).2.2) t3))]) rfl F18 N18 (.inr ⟨_, by k_mem, rfl, _, rfl⟩) ?qz (fun I => asg_threeW _ rfl rfl rfl rfl (by decide) (by decide) (by decide) rfl (fun i v _ hv => hCO5.seq (fun p hp => ?qm) i v hv)) ?qe ?qf)⟩
                case qz => rw [PySem.sizeLine_eq, List.size_toArray, hl12]; omega
                case qm => (repeat first | exact List.mem_append_left _ hp | refine List.Mem.tail _ ?_)
                case qe =>
                  intro i I oI C oC D ys m₂ ex s' E' hi hB hC F13 N13 off13 ne13
                  walk_at "my fold"
                  obtain ⟨_, _, _, ⟨t1, t2, t3, rfl, rfl, rfl⟩, hm1, hm2, hm3⟩ := hB
                  simp only [List.cons_append, List.nil_append] at N13
                  walk_at "my steps"
                  refine Hold.mk ?_
                  (try k_fold)
                  rename News _ _ _ _ => N19
                  rename Fr _ _ _ _ => F19
                  have hc := col_ok hR4 hg0 (k := i) (by rw [List.size_toArray, hl12] at hi; exact hi)
                  exact rgb_use (dp := 302) (un := _) (fr := some [_]) (gd := some []) X0 T0 (by decide) F19 N19 hc.r hc.g hc.b hc.ne hc.lo hc.hi fun D' h' tk' t1 t2 t3 F20 N20 l20 => gend_one F20 N20 l20 ⟨D', t1, t2, t3, rfl, rfl⟩
                case qf =>
                intro D7 h14 tk14 ys7 e14 ex8 F20 N20 l20 hl20 hy20
                have hTO : TellObjs (fun j => colS (ptS row j) grey) row.length ys7 ex8 := ⟨by rw [hl20, List.size_toArray, hl12], fun j y hj => by obtain ⟨e', ⟨D', t1, t2, t3, h1, rfl⟩, h3⟩ := hy20 j y hj; exact ⟨D', t1, t2, t3, h1, h3 _ (.head _)⟩⟩
                have l20r := l20
                clear hy20
                have N20' : News _ _ _ (((D7, lstObj ys7 e14) :: _) ++ ex8) := N20
                obtain ⟨ex9, N21, hn9, hTO9⟩ := hTO.filter N20' [s1.heap.objs.size + 1 + 1 + 1] (by
                    intro b hb
                    rw [List.mem_singleton.mp hb]
                    exact ⟨wH, by k_mem, fun its q => by rw [dH] at q; cases q⟩)
                have bH9 := hn9 _ (.head _)
                clear N20 N20' hTO
                simp only [List.cons_append, List.nil_append, List.append_assoc] at N21
                walk_at "my steps"
                refine Hold.mk ?_
                (try k_fold)
                refine wpAny_Assign_Name ?_ (by with_unfolding_all rfl)
                refine ListComp_G (cl := []) F20 rfl (by decide) rfl (by decide) ?_
                walk_at "my steps"
                refine .inl (srcGL_any (its := ys7.toArray) (fun i v e => ∃ t, v = .float (hueF (colS (ptS row i) grey).1 (colS (ptS row i) grey).2.1 (colS (ptS row i) grey).2.2) t ∧ e = []) rfl F20 N21 (.inr ⟨_, by k_mem, rfl, _, rfl⟩) ?qz (fun I => asg_threeW _ rfl rfl rfl rfl (by decide) (by decide) (by decide) rfl (fun i v _ hv => hTO9.seq (fun p hp => ?qm) i v hv)) ?qe ?qf)
                case qz => rw [PySem.sizeLine_eq, List.size_toArray, hl20, List.size_toArray, hl12]; omega
                case qm => (repeat first | exact List.mem_append_right _ (List.mem_append_right _ hp) | refine List.Mem.tail _ ?_)
                case qe =>
                  intro i I oI C oC D ys m₂ ex s' E' hi hB hC F13 N13 off13 ne13
                  walk_at "my fold"
                  obtain ⟨_, _, _, ⟨t1, t2, t3, rfl, rfl, rfl⟩, hm1, hm2, hm3⟩ := hB
                  simp only [List.cons_append, List.nil_append] at N13
                  walk_at "my steps"
                  rename News _ _ _ _ => N14
                  rename Fr _ _ _ _ => F14
                  exact gend_nil F14 N14 ⟨t1, rfl, rfl⟩
                case qf =>
                intro D8 h15 tk15 ys8 e15 ex10 F22 N22 l22 hl22 hy22
                have hHV : HueVals (fun j => colS (ptS row j) grey) row.length ys8 := ⟨by rw [hl22, List.size_toArray, hl20, List.size_toArray, hl12], fun j hj => by
                  have hj' : j < ys8.length := by rw [hl22, List.size_toArray, hl20, List.size_toArray, hl12]; exact hj
                  obtain ⟨e', ⟨t, h1, rfl⟩, h3⟩ := hy22 j _ (List.getElem?_eq_getElem hj')
                  exact ⟨t, by rw [List.getElem?_eq_getElem hj', h1]⟩⟩
                have N23 := news_front N22
                clear N22 hy22
                have l22r := l22
                dsimp only [AllNe] at l20 l22
                walk_at "my steps"
                refine Hold.mk ?_
                (try k_fold)
                refine' storeX_C F22 N23 rfl ?U9 dH ?_
                case U9 => exact UpdF.tail (p := (_, _)) (allNe_mem l22r (_, wH) (by k_mem)).symm (UpdF.tail (p := (_, _)) (allNe_mem l20r (_, wH) (by k_mem)).symm (UpdF.tail (p := (_, _)) (allNe_mem l16r (_, wH) (by k_mem)).symm (UpdF.tail (p := (_, _)) (allNe_mem lc16r (_, wH) (by k_mem)).symm (UpdF.tail (p := (_, _)) (allNe_mem l14r (_, wH) (by k_mem)).symm (UpdF.tail (p := (_, _)) (allNe_mem l12r (_, wH) (by k_mem)).symm (UpdF.tail (p := (_, _)) (allNe_mem l8r (_, wH) (by k_mem)).symm (UpdF.tail (p := (_, _)) (allNe_mem lc8r (_, wH) (by k_mem)).symm (UpdF.tail (p := (_, _)) (allNe_mem l6r (_, wH) (by k_mem)).symm (UpdF.tail (p := (_, _)) (allNe_mem l4r (_, wH) (by k_mem)).symm (UpdF.tail (p := (_, _)) (allNe_mem l3r (_, wH) (by k_mem)).symm (UpdF.tail (p := (_, _)) (neN (by walk_at "my kn")) (UpdF.head (fun p hp => by
                    rcases List.mem_cons.mp hp with rfl | hp
                    · exact neN (by walk_at "my kn")
                    rcases List.mem_cons.mp hp with rfl | hp
                    · exact neN (by walk_at "my kn")
                    rcases List.mem_cons.mp hp with rfl | hp
                    · exact neN (by walk_at "my kn")
                    rcases List.mem_cons.mp hp with rfl | hp
                    · exact neN (by walk_at "my kn")
                    rcases List.mem_append.mp hp with hp | hp
                    · exact allNe_mem bH p hp
                    rcases List.mem_append.mp hp with hp | hp
                    · exact allNe_mem bH7 p hp
                    · exact allNe_mem bH9 p hp)))))))))))))
                intro h16 o16 F24 N24 d16
                walk_at "my steps"
                refine Hold.mk ?_
                (try k_fold)
                refine ListComp_G F24 rfl (by decide) rfl (by decide) ?_
                walk_at "my steps"
                refine Hold.mk ?_
                (try k_fold)
                refine len_my (l := D1) (us := rs4) (c := e4) N24 (by k_mem) ?hf16 ?hl16
                case hf16 => rw [hI4.length]; omega
                case hl16 =>
                rw [hI4.length]
                walk_at "my steps"
                rename IsRange _ _ _ _ _ _ _ _ => hR16
                rename News _ _ _ _ => N25
                rename Fr _ _ _ _ => F25
                refine .inr (srcGR_count (n := row.length) (fun i => Float64.cmp (hueF (colS (ptS row i) grey).1 (colS (ptS row i) grey).2.1 (colS (ptS row i) grey).2.2) (hueF (colS (ptS row (prevI row.length i)) grey).1 (colS (ptS row (prevI row.length i)) grey).2.1 (colS (ptS row (prevI row.length i)) grey).2.2) == some Ordering.lt) rfl F25 N25 hR16 ?hsm ?hrs ?hsz rfl rfl ?el ?fin)
                case hsm => exact small_my (by omega) (by omega) (by omega)
                case hrs => rw [rangeSize_nat]; omega
                case hsz => rw [PySem.sizeLine_eq]; omega
                case el =>
                  intro i t I oI C oC D ys m₂ ex s' E' hi hm hC F26 N26 off26 ne26
                  walk_at "my fold"
                  simp only [List.cons_append, List.nil_append] at N26
                  rw [Int.mul_one, Int.zero_add] at hm
                  have hk1 : ((i : Int) - 1 = (prevI row.length i : Int)) ∨ ((i : Int) - 1 = (prevI row.length i : Int) - (ys8.length : Int)) := by rw [hHV.1]; exact (prev_ix hi).2
                  have hk2 : (i : Int) = (i : Int) ∨ (i : Int) = (i : Int) - (ys8.length : Int) := .inl rfl
                  obtain ⟨t1, hx1⟩ := hHV.2 i hi
                  obtain ⟨t2, hx2⟩ := hHV.2 _ (prev_ix hi).1
                  have hlen8 : ys8.length ≤ 32800 := by rw [hHV.1]; exact hsh
                  refine wpAny_tests_one ?_
                  walk_at "my steps"
                  · rename _ = true => hc
                    exact hc.symm
                  · exact gend_nil F26 N26 trivial
                  · rename _ = false => hc
                    exact hc.symm
                  · exact gend_nil F26 N26 trivial
                case fin =>
                intro D9 h17 tk17 ys9 e17 ex11 F26 N26 l26 hl26
                have N27 := news_front N26
                clear N26 l26
                clear l22 l22r l20 l20r l16 l16r lc16 lc16r l14 l14r l12 l12r l8 l8r lc8 lc8r l6 l6r l4 l4r l3 l3r l0 b51 bH bH7 bH9 hn5 hn7 hn9
                have hcl : ys9.length ≤ row.length := by rw [hl26]; exact Nat.le_trans (List.countP_le_length) (by rw [List.length_range]; exact Nat.le_refl _)
                walk_at "my steps"
                refine Hold.mk ?_
                (try k_fold)
                refine len_my N27 (.head _) ?hf17 ?hl17
                case hf17 => omega
                case hl17 =>
                generalize hT : ys9.length = turns at hl26 hcl
                walk_at "my steps"
                refine Hold.mk ?_
                (try k_fold)
                rename News _ _ _ _ => N28
                rename Fr _ _ _ _ => F28
                refine len_my (l := D1) (us := rs4) (c := e4) N28 (by k_mem) ?hf18 ?hl18
                case hf18 => rw [hI4.length]; omega
                case hl18 =>
                rw [hI4.length]
                walk_at "my steps"
                refine Hold.mk ?_
                (try k_fold)
                rename News _ _ _ _ => N29
                rename Fr _ _ _ _ => F29
                refine ListComp_G (cl := []) F29 rfl (by decide) rfl (by decide) ?_
                walk_at "my steps"
                refine .inl (srcGL_any (its := rs6.toArray) (fun i v e => ∃ t, v = .int (divAt ((List.range row.length).map fun k => ((ptS row k).1, (ptS row k).2.1)) i).1 t ∧ e = []) rfl F29 N29 (.inr ⟨_, by k_mem, rfl, _, rfl⟩) ?qz (fun I => asg_twoW _ rfl rfl rfl (by decide) rfl (fun i v hi hv => hPO7.seq (fun p hp => ?qm) i v (by rw [List.size_toArray, hPO7.1] at hi; exact hi) hv)) ?qe ?qf)
                case qz => rw [PySem.sizeLine_eq, List.size_toArray, hPO7.1]; omega
                case qm => (repeat first | exact List.mem_append_right _ (List.mem_append_left _ hp) | refine List.Mem.tail _ ?_)
                case qe =>
                  intro i I oI C oC D ys m₂ ex s' E' hi hB hC F13 N13 off13 ne13
                  walk_at "my fold"
                  obtain ⟨_, _, ⟨t1, t2, rfl, rfl⟩, hm1, hm2⟩ := hB
                  simp only [List.cons_append, List.nil_append] at N13
                  walk_at "my steps"
                  rename News _ _ _ _ => N14
                  rename Fr _ _ _ _ => F14
                  exact gend_nil F14 N14 ⟨t1, rfl, rfl⟩
                case qf =>
                intro D10 h18 tk18 ys10 e18 ex12 F30 N30 l30 hl30 hy30
                have hQI := ints_vals (f := fun j => (divAt ((List.range row.length).map fun k => ((ptS row k).1, (ptS row k).2.1)) j).1) (n := row.length) (ys := ys10) (by rw [hl30, List.size_toArray, hPO7.1]) fun j hj => by
                  have hj' : j < ys10.length := by rw [hl30, List.size_toArray, hPO7.1]; exact hj
                  obtain ⟨e', ⟨t, h1, rfl⟩, h3⟩ := hy30 j _ (List.getElem?_eq_getElem hj')
                  exact ⟨t, by rw [List.getElem?_eq_getElem hj', h1]⟩
                have N31 := news_front N30
                clear N30 hy30 l30
                have h12 := plain12 hR4 hg0
                rw [← hl26] at h12
                clear hl26
                walk_at "my steps"
                refine Hold.mk ?_
                (try k_fold)
                rename News _ _ _ _ => N32
                rename Fr _ _ _ _ => F32
                refine len_my (l := D1) (us := rs4) (c := e4) N32 (by k_mem) ?hf19 ?hl19
                case hf19 => rw [hI4.length]; omega
                case hl19 =>
                rw [hI4.length]
                clear h12 hQI hcl
                walk_at "my steps"
                refine Hold.mk ?_
                (try k_fold)
                rename IsRange _ _ _ _ _ _ _ _ => hR19
                rename News _ _ _ _ => N33
                rename Fr _ _ _ _ => F33
                obtain ⟨m₀, hm₀, F34⟩ := name_map F33
                have N33' : News _ _ _ ((D8, lstObj ys8 e15) :: (D7, lstObj ys7 e14) :: (D6, lstObj rs6 e13) :: (D4, lstObj ys4 e11) :: (D1, lstObj rs4 e4) :: (s1.heap.objs.size + 1 + 1 + 1, o16) :: (51, tab51 c13) :: (44, tab44 c8) :: (ex5 ++ (ex7 ++ ex9))) := fun p hp => by
                  iterate 8
                    rcases List.mem_cons.mp hp with rfl | hp
                    · exact N33 _ (by k_mem)
                  exact N33 p (by repeat first | exact hp | refine List.Mem.tail _ ?_)
                clear N33
                obtain ⟨nw, hnw, N34⟩ : ∃ nw, nw = _ ∧ News _ _ _ nw := ⟨_, rfl, N33'⟩
                refine iter_rng (n := row.length) (m₀ := m₀) (fun i m nx => nx = nw ∧
                  ∀ z, z ≠ Str.ofString "k" → [Str.ofString "one", Str.ofString "two", Str.ofString "three", Str.ofString "away"].contains z = false → m z = m₀ z) rfl hR19 ?hsm ?hrs F34 N34 ?hj ?turn ?done
                case hsm => exact small_my (by omega) (by omega) (by omega)
                case hrs => rw [rangeSize_nat]; omega
                case hj => exact ⟨rfl, fun _ _ _ => rfl⟩
                case turn =>
                  intro I i t m₁ nx h19 tk19 oI hi hJ9 hne5 F35 N35
                  walk_at "my fold"
                  obtain ⟨rfl, hm⟩ := hJ9
                  subst hnw
                  rw [map_stored hm, hm₀] at F35
                  simp only [Int.zero_add] at F35
                  have hk1 : ((i : Int) - 1 = (prevI row.length i : Int)) ∨ ((i : Int) - 1 = (prevI row.length i : Int) - (ys8.length : Int)) := by rw [hHV.1]; exact (prev_ix hi).2
                  have hk2 : ∀ z : Int, (i : Int) = (i : Int) ∨ (i : Int) = (i : Int) - z := fun _ => .inl rfl
                  have hk3 := hk2 (ys8.length : Int)
                  have hk4 := hk2 (ys7.length : Int)
                  have hk5 := hk2 (ys4.length : Int)
                  obtain ⟨t1, hx1⟩ := hHV.2 i hi
                  obtain ⟨t2, hx2⟩ := hHV.2 _ (prev_ix hi).1
                  have hlen8 : ys8.length ≤ 32800 := by rw [hHV.1]; exact hsh
                  have hlen7 : ys7.length ≤ 32800 := by rw [hTO9.1]; exact hsh
                  have hlen4 : ys4.length ≤ 32800 := by rw [hCO5.1]; exact hsh
                  have hi7 : i < ys7.length := by rw [hTO9.1]; exact hi
                  have hi4 : i < ys4.length := by rw [hCO5.1]; exact hi
                  obtain ⟨tt, t3, t4, t5, hx3', hmT⟩ := hTO9.2 i _ (List.getElem?_eq_getElem hi7)
                  have hx3 := List.getElem?_eq_getElem hi7
                  rw [hx3'] at hx3
                  obtain ⟨tc, xs, ec, hx4', hIc, hmC⟩ := hCO5.2 i _ (List.getElem?_eq_getElem hi4)
                  have hx4 := List.getElem?_eq_getElem hi4
                  rw [hx4'] at hx4
                  have hrt := plainRT hR4 hg0 hi
                  have hst := plainStep hR4 hg0 hi
                  clear hk2 hm
                  dsimp only at hmT hIc
                  cases hIc with | cons _ ta hIc => cases hIc with | cons _ tb hIc => cases hIc with | cons _ tg hIc => cases hIc with | nil =>
                  have N36 : News _ _ h19 ((tt, _) :: (tc, _) :: (I, oI) :: _) := fun p hp => by
                    rcases List.mem_cons.mp hp with rfl | hp
                    · exact N35 _ (by repeat first | exact List.mem_append_right _ (List.mem_append_right _ hmT) | refine List.Mem.tail _ ?_)
                    rcases List.mem_cons.mp hp with rfl | hp
                    · exact N35 _ (by repeat first | exact List.mem_append_left _ hmC | refine List.Mem.tail _ ?_)
                    · exact N35 p hp
                  clear N35 hmT hmC hx3' hx4'
                  walk_at "my steps"
                  refine Hold.mk ?_
                  (try k_fold)
                  rename News _ _ _ _ => N37
                  rename Fr _ _ _ _ => F37
                  have hcx := col_ok hR4 hg0 (k := i) hi
                  have hv0 : 0 ≤ max3 (colS (ptS row i) grey).1 (colS (ptS row i) grey).2.1 (colS (ptS row i) grey).2.2 := Int.le_trans hcx.r.1 (max3_le _ _ _).1
                  refine h2r_use (dp := 302) (un := _) (fr := some [_]) (gd := some []) X0 T0 (by decide) F37 N37 ⟨hv0, hcx.hi⟩ hrt.fa hrt.fb hrt.f6 hrt.b0 hrt.hi fun Dh h21 tk21 t6 t7 t8 F38 N38 l38 => ?_
                  clear l38
                  have hcr := hcx.r
                  have hcg := hcx.g
                  have hcb := hcx.b
                  clear hcx hv0
                  obtain ⟨k1, k2, k3⟩ := hrt.nr
                  generalize h2r _ _ _ = hh at N38 k1 k2 k3
                  obtain ⟨a1, a2, a3⟩ := hh
                  dsimp only at N38 k1 k2 k3
                  refine assign_seq (items := #[_, _, _]) rfl (.inl ⟨_, News.get N38 (.head _), rfl, 0, rfl⟩) rfl rfl fun h22 hk22 => ?_
                  have F39 := F38.keeps hk22
                  have N39 := N38.grown hk22
                  clear F38 N38 hk22
                  k_sweep
                  walk_at "my steps"
                  refine Hold.mk ?_
                  (try k_fold)
                  rename News _ _ _ _ => N40
                  rename Fr _ _ _ _ => F40
                  clear hrt
                  refine max_num (a := absN (subN a1 _)) (b := absN (subN a2 _)) (c := absN (subN a3 _)) rfl F40 N40 fun v h23 tk23 hv F41 N41 => ?_
                  have hv' : ∃ (n : Num) (tn : Tok), v = numV n tn ∧ IntNought n ∧ geN (mulN n (2 ^ Int.toNat 20)) 1 = false := by
                    rcases hv with rfl | rfl | rfl
                    · exact ⟨_, _, rfl, k1.nought, k1.small⟩
                    · exact ⟨_, _, rfl, k2.nought, k2.small⟩
                    · exact ⟨_, _, rfl, k3.nought, k3.small⟩
                  obtain ⟨n0, tn, rfl, hn0, hn1⟩ := hv'
                  clear hv k1 k2 k3
                  walk_at "my steps"
                  all_goals first
                    | exact absurd (hn1.symm.trans (by assumption)) Bool.false_ne_true
                    | exact absurd (hst.pos.symm.trans (by assumption)) (by decide)
                    | exact absurd (hst.lt.symm.trans (by assumption)) (by decide)
                    | (rename News _ _ _ _ => N42
                       rename Fr _ _ _ _ => F42
                       refine led_end _ F42 N42 (fun p hp => .tail _ (.tail _ (.tail _ hp))) hne5 ?_
                       refine ⟨rfl, fun z z1 z2 => ?_⟩
                       have z3 := z2
                       simp only [List.contains_cons, Bool.or_eq_false_iff, beq_eq_false_iff_ne] at z3
                       rw [hm₀]; dsimp only; simp only [z1, z2, z3, if_false, Bool.false_eq_true])
                case done =>
                intro m₁ nx h20 tk20 hJ9 F36 N36
                obtain ⟨rfl, hm⟩ := hJ9
                subst hnw
                rw [map_self (Str.ofString "k") m₁, map_stored hm, hm₀] at F36
                generalize m₁ (Str.ofString "k") = ku at F36
                walk_at "my steps"
                refine Hold.mk ?_
                (try k_fold)
                rename News _ _ _ _ => N43
                rename Fr _ _ _ _ => F43
                refine ListComp_G (cl := []) F43 rfl (by decide) rfl (by decide) ?_
                walk_at "my steps"
                rename IntsAre _ _ => hIq
                rename List Value => ws
                rename News _ _ _ _ => N44
                rename Fr _ _ _ _ => F44
                have hql2 : (List.drop (row.length - 1) row ++ List.take (row.length - 1) row).length = row.length := drop_take_len row
                have hwl : ws.length = row.length := by rw [hIq.length, hql2]
                refine .inl (srcGL_any (its := ws.toArray) (fun i v e => ∃ D' t1 t2, v = .ref D' ∧ e = [(D', tup2 (.int ((List.drop (row.length - 1) row ++ List.take (row.length - 1) row).getD i 0) t1) (.int 0 t2))]) rfl F44 N44 (.inr ⟨_, .head _, rfl, _, rfl⟩) ?qz (fun I => asg_name rfl rfl) ?qe ?qf)
                case qz => rw [PySem.sizeLine_eq, List.size_toArray, hwl]; omega
                case qe =>
                  intro i I oI C oC D ys m₂ ex s' E' hi hB hC F13 N13 off13 ne13
                  walk_at "my fold"
                  obtain ⟨v, hv, hm1⟩ := hB
                  have hv' : ws[i]? = some v := by simpa using hv
                  have hil : i < (List.drop (row.length - 1) row ++ List.take (row.length - 1) row).length := by rw [hql2, ← hwl]; simpa using hi
                  obtain ⟨t, ht⟩ := hIq.get i _ (List.getElem?_eq_getElem hil)
                  have hgd : (List.drop (row.length - 1) row ++ List.take (row.length - 1) row).getD i 0 = (List.drop (row.length - 1) row ++ List.take (row.length - 1) row)[i] := by rw [List.getD_eq_getElem?_getD, List.getElem?_eq_getElem hil]; rfl
                  rw [hv', ← hgd] at ht
                  rw [Option.some.inj ht] at hm1
                  clear hgd ht hv hv' hi hil
                  generalize hqi : (List.drop (row.length - 1) row ++ List.take (row.length - 1) row).getD i 0 = qi at hm1
                  simp only [List.cons_append, List.nil_append] at N13
                  walk_at "my steps"
                  rename News _ _ _ _ => N14
                  rename Fr _ _ _ _ => F14
                  subst hqi
                  exact gend_one3 F14 N14 (neN (by walk_at "my kn")) (neN (by walk_at "my kn")) (neN (by walk_at "my kn")) ⟨_, _, _, rfl, rfl⟩
                case qf =>
                intro D11 h24 tk24 ys11 e24 ex13 F45 N45 l45 hl45 hy45
                have hPO11 : PairObjs (fun j => ((List.drop (row.length - 1) row ++ List.take (row.length - 1) row).getD j 0, 0)) row.length ys11 ex13 := ⟨by rw [hl45, List.size_toArray, hwl], fun j hj => by
                  have hj' : j < ys11.length := by rw [hl45, List.size_toArray, hwl]; exact hj
                  obtain ⟨e', ⟨D', t1, t2, h1, rfl⟩, h3⟩ := hy45 j _ (List.getElem?_eq_getElem hj')
                  exact ⟨D', t1, t2, by rw [List.getElem?_eq_getElem hj', h1], h3 _ (.head _)⟩⟩
                refine kqd_eq N45 (oa := lstObj rs6 e13) (ob := lstObj ys11 e24) (by k_mem) rfl rfl hPO7.dat ?sa (.head _) rfl rfl hPO11.dat ?sb dat_ok dat_ok (by ke_room) ?_
                case sa => intro p hp; exact .tail _ (List.mem_append_left _ (by repeat first | exact List.mem_append_right _ (List.mem_append_left _ hp) | refine List.Mem.tail _ ?_))
                case sb => intro p hp; exact .tail _ (List.mem_append_right _ hp)
                have heq : ((List.range row.length).map fun j => datP (divAt ((List.range row.length).map fun k => ((ptS row k).1, (ptS row k).2.1)) j)) = (List.range row.length).map fun j => datP ((List.drop (row.length - 1) row ++ List.take (row.length - 1) row).getD j 0, 0) :=
                  List.map_congr_left fun j hj => by rw [plainQuot hR4 (List.mem_range.mp hj)]
                rw [heq]
                have hdd : ∀ (l : List Dat) (i : Decidable (l = l)), @decide (l = l) i = true := fun l i => @decide_eq_true _ i rfl
                rw [hdd]
                clear heq hdd
                refine ⟨goodW_bool F45 (by assumption) (fun _ => rfl) (by kc_post), GrownAt.of (ps := #[rawInt 88, rawInt 4, .ref c13]) N45 (by k_mem), GrownAt.of N45 (ps := #[rawInt 73, rawInt 4, .ref c8]) (by k_mem), trivial⟩
)
end
end Mine
end
set_option maxRecDepth 100000 in
set_option maxHeartbeats 8000000 in
theorem PySem.Challenge.cw_rl0058_01_holds : PySem.Challenge.rw_rl0058_01.Holds :=
  Mine.t_law
