import PyProof.Rows.All
import Wide.All
import OpenK.AllK
import Wide.FinOn
import KE.BitLaws
import KE.IntBitsLaws
import PyProof.StrWalks
import PyProof.StrLawsTight
import Lean
import PySem.Challenge.RW_re0104_01
set_option Elab.async false
set_option rowWalk.seconds 0
-- HD1
section
open PySem PySem.W PyProof.Rows
namespace Mine
set_option maxRecDepth 100000
set_option maxHeartbeats 8000000
/-- the text's statements that bind a name which the walk needs: all but the four rows that name a module -/
noncomputable def hdView : Program := { Challenge.rw_re0104_01.row.prog with main := { Challenge.rw_re0104_01.row.prog.main with body := (((Challenge.rw_re0104_01.row.prog.main.body.eraseIdx 15).eraseIdx 12).eraseIdx 9).eraseIdx 1 } }
theorem look_ok : OpenLaw.wellSaid Challenge.rw_re0104_01 = true := by
  rw [PySem.W.Fast.te9446332074065402090]
  unfold PySem.W.Fast.tw9446332074065402090 PySem.W.Fast.tw17960256430627541270 PySem.W.Fast.tw2436336058641802641 PySem.W.Fast.tw12908688711261696721
  repeat' (with_reducible refine look_both ?_ ?_)
  all_goals decide +kernel
/-- the row's head from the start-up's own heap, which the library knows: the run and what is looked at behind it, at once -/
theorem left_at_boot {p q : Program} {loose : List Str} {Xt : Shared → Bool} {α : Type} {Yf : Shared → α} {Ya : World → α} {N : Nat} {m : Nat} {ann : Option Value}
    (hN : Nat.ble 600 N = true) (he : opening p = plainProg p.main.scope.names) (hf : ∀ s, fenceModules? p s = some s)
    (size : ∀ w : World, ((boot_heap w.params).isNs mainGlobals, (boot_heap w.params).objs.size, (boot_heap w.params).nsMap mainGlobals "__annotations__") = (true, m, ann))
    (run : ∀ (w : World) (os : OsState), (topRun treeTable p w m ann N ⟨boot_heap w.params, #[], boot_drawn, boot_toks, os⟩ (topStub p)).map (fun s =>
        ((staticsOk (importedModules p.main.body) (boot_heap w.params) s.heap && namesBound p s.heap && gensDone s && laidKept (boot_heap w.params) s.heap), openSeen q loose (importedModules p.main.body) Xt true s, Yf s)) = some (true, openGood q loose, Ya w)) :
    LeftO p q loose Xt Yf Ya N := by
  intro w
  obtain ⟨s, hs, hv⟩ := Option.map_eq_some_iff.mp (boot_open he hN hf w)
  obtain ⟨h, gs, d, k, os⟩ := s
  simp only [Prod.mk.injEq] at hv
  obtain ⟨h1, h2, h3, h4⟩ := hv
  subst h1 h2 h3 h4
  obtain ⟨s1, hr, hz⟩ := Option.map_eq_some_iff.mp (run w os)
  have z := size w
  simp only [Prod.mk.injEq] at z hz
  unfold openEnds
  rw [hs, Option.bind_some]
  unfold topFrom
  simp only [z.1, z.2.1, z.2.2]
  erw [hr]
  simp only [Option.bind_some]
  show (match (_ && _) with | true => some s1 | false => none).map _ = _
  erw [hz.1]
  exact congrArg some (Prod.ext hz.2.1 hz.2.2)
theorem size_ok (w : World) : ((boot_heap w.params).isNs mainGlobals, (boot_heap w.params).objs.size, (boot_heap w.params).nsMap mainGlobals "__annotations__") = (true, 11, some (Value.ref 6)) := by kernel_rfl
local macro_rules | `(tactic| o_head (kmHook $K $A $p $_)) => `(tactic| (
  refine holds_open (q := hdView) (loose := [Str.ofString "_Accumulator"]) (Xt := fun s => xlAt hdView [] s && recOk (RowW.records (OpenRow.toRowW Challenge.rw_re0104_01.row)) s) (XP := XL hdView []) (Yf := Hook.obs (kmHook $K $A $p [37, 44, 119])) (Ya := Hook.val (kmHook $K $A $p [37, 44, 119])) (YP := Hook.says (kmHook $K $A $p [37, 44, 119])) (N := 2026) ?hl (Hook.of _) (Hook.keeps _) (fun s e => xl_of s (Bool.and_eq_true_iff.mp e).1) XL.keeps (by rfl) (by rfl) (by rfl) (fun s e => recFacts_of (Bool.and_eq_true_iff.mp e).2) (by rfl) (by first | assumption | decide +kernel) (by decide +kernel) ⟨rfl, rfl, rfl, rfl, rfl, by decide +kernel⟩ ?hw ?hc;
  (case hl => exact left_at_boot (m := 11) (ann := some (Value.ref 6)) rfl rfl (fun _ => rfl) size_ok (fun w os => by rw [PySem.W.Fast.te14082659384304107361, PySem.W.Fast.te14364793385576792824, PySem.W.Fast.te4187177175401517315]; kernel_rfl))))
local macro_rules | `(tactic| o_law) => `(tactic| refine holds_law look_ok fun said => ?_)
open_top hd for PySem.Challenge.rw_re0104_01
end Mine
end
-- L1h
section
open PySem PySem.W PyProof.Rows PySem.Calls PySem.Spec
namespace Mine
set_option maxRecDepth 100000
set_option maxHeartbeats 8000000
def TrueEnd (tabs : List (Addr × Addr)) (s₁ : Shared) (r : Result) (s' : Shared) : Prop :=
  r = .ok (.ret (.bool true)) ∧ (∀ b o, (ghostOf s₁.heap tabs).get? b = some o → s'.heap.get? b = some o) ∧ s'.os = s₁.os ∧ AllBare s'.gens ∧ GrownAll tabs s'.heap
theorem kn_postT {M : Model} {A : Around} {cd : Code} {s s₁ : Shared} {cw : ClaimW} {cl : Str → Option Addr} {mean : ExcName → Option Value} {args : List WData} {tabs : List (Addr × Addr)} (hT : TabsAt tabs s₁.heap) (hr : ∀ a x, cw.raises a x = false)
    (hp : cw.post args (ofPy (.bool true)) args = true) (h : codeAny M A cd (TrueEnd tabs s₁) s) : codeAny M A cd (GoodWG cw cl mean args s₁) s :=
  codeAny_mono h fun r s' ⟨hv, hk, hos, hg, hgr⟩ => by
    have keep : ∀ b o, b ∉ tabs.map (·.2) → s₁.heap.get? b = some o → s'.heap.get? b = some o := fun b o hb e => hk b o (ghost_ne e hb)
    have grown : ∀ b o, b ∈ tabs.map (·.2) → s₁.heap.get? b = some o → isCodeTable s₁.heap b ∧ o = tabObj #[] ∧ ∃ ps, s'.heap.get? b = some (tabObj ps) := fun b o hb e => by
      obtain ⟨q, hq, rfl⟩ := List.mem_map.mp hb
      have e2 := (hT q hq).2
      rw [e] at e2
      exact ⟨((hT q hq).1.tab (hT q hq).2).isCodeTable, Option.some.inj e2, hgr.get q hq⟩
    refine ⟨.inl ⟨.bool true, ofPy (.bool true), [], hv, hr args, ?_, hp, fun _ => ⟨List.nodup_nil, fun _ h => nomatch h⟩⟩, ⟨fun b o e => ?_, fun b o e => ?_⟩, hos, hg⟩
    · constructor
    · by_cases hb : b ∈ tabs.map (·.2)
      · obtain ⟨ht, rfl, ps, hP⟩ := grown b o hb e
        exact .inr (.inl ⟨ht, rfl, #[], ps, rfl, by rw [Array.empty_append]; exact hP⟩)
      · exact .inl (keep b o hb e)
    · by_cases hb : b ∈ tabs.map (·.2)
      · obtain ⟨_, _, ps, hP⟩ := grown b o hb e
        exact ⟨_, hP⟩
      · exact ⟨o, keep b o hb e⟩
end Mine
end
-- Base1
section
open PySem PySem.W PyProof.Rows
namespace Mine
noncomputable abbrev KK (w : World) : Frag := hd.heap_1 w.params
noncomputable abbrev PR : Program := Challenge.rw_re0104_01.row.prog
noncomputable abbrev LO : List Str := looseW hdView [Str.ofString "_Accumulator"] ++ List.map (fun x => x.name) (recsOf hdView) ++ List.map (fun x => x.fst) (litsOf hdView) ++ List.map (fun x => x.name) (clssOf hdView (looseW hdView [Str.ofString "_Accumulator"]))
/-- the caller's side of a contract -/
structure Pre (w : World) (mean : ExcName → Option Value) (mg mb : Str → Option Value) (news : List (Addr × Obj)) (outer : List Env) (L : Addr) (m : Str → Option Value) (h₀ : Heap) (s : Shared) : Prop where
  x : 0 = 0
end Mine
end
-- Tool
section
namespace Mine
/-- the goal out of sight, while what is known is taken apart: the parts' proof terms would repeat it each time -/
theorem hideG {G : Prop} (k : ∀ P : Prop, (G → P) → P) : G := k G id
theorem room1 {dp a b R : Nat} (h : dp + b < R) (e : Nat.ble (a + 1) b = true) : dp + 1 + a < R := by
  have := Nat.le_of_ble_eq_true e
  omega
theorem units1 {un a b C : Nat} (h : un + 8 * b < C) (e : Nat.ble (a + 1) b = true) : un + 3 + 8 * a < C := by
  have := Nat.le_of_ble_eq_true e
  omega
theorem room0 {dp b R : Nat} (h : dp + b < R) : dp < R := Nat.lt_of_le_of_lt (Nat.le_add_right _ _) h
section
variable {α : Type} {a b : α} {A B C X : List α}
theorem ms_nil : ∀ p ∈ ([] : List α), p ∈ B := fun _ h => nomatch h
theorem ms_cons (h : a ∈ B) (t : ∀ p ∈ A, p ∈ B) : ∀ p ∈ a :: A, p ∈ B := fun p hp => by
  rcases List.mem_cons.mp hp with rfl | hp
  · exact h
  · exact t p hp
theorem ms_app (h : ∀ p ∈ A, p ∈ B) (t : ∀ p ∈ C, p ∈ B) : ∀ p ∈ A ++ C, p ∈ B := fun p hp => (List.mem_append.mp hp).elim (h p) (t p)
theorem ms_self : ∀ p ∈ X, p ∈ X := fun _ h => h
theorem ms_tail (t : ∀ p ∈ X, p ∈ B) : ∀ p ∈ X, p ∈ b :: B := fun p hp => .tail _ (t p hp)
theorem ms_left (t : ∀ p ∈ X, p ∈ B) : ∀ p ∈ X, p ∈ B ++ C := fun p hp => List.mem_append_left _ (t p hp)
theorem ms_right (t : ∀ p ∈ X, p ∈ C) : ∀ p ∈ X, p ∈ B ++ C := fun p hp => List.mem_append_right _ (t p hp)
end
end Mine
end
-- Pre1
section
open PySem PySem.W PyProof.Rows PySem.Calls
set_option maxRecDepth 100000
set_option maxHeartbeats 8000000
namespace Mine
theorem fill : (Challenge.rw_re0104_01, hd.heap_1) = (Challenge.rw_re0104_01, hd.heap_1) := by
  k_fill
  rfl
abbrev Ledg := List (Addr × Obj)
/-- behind a call: what was not told to it stands as it stood; what it hands on is new or was told -/
structure Back (news : Ledg) (h h' : Heap) (news' : Ledg) : Prop where
  keep : ∀ b o, h.get? b = some o → b ∉ news.map (·.1) → h'.get? b = some o
  new : ∀ p ∈ news', h.get? p.1 = none ∨ p.1 ∈ news.map (·.1)
/-- the ground that a call is entered upon -/
structure Grd (news : Ledg) (h g : Heap) : Prop where
  keep : ∀ b o, h.get? b = some o → b ∉ news.map (·.1) → g.get? b = some o
  none : ∀ b, g.get? b = none → h.get? b = none ∨ b ∈ news.map (·.1)
theorem grd_hide (news : Ledg) (h : Heap) : Grd news h (hideAll h (news.map (·.1))) where
  keep := fun b o e n => hideAll_get _ e n
  none := fun b e => by
    by_cases hb : b ∈ news.map (·.1)
    · exact .inr hb
    · cases q : h.get? b with
      | none => exact .inl rfl
      | some o => rw [hideAll_get _ q hb] at e; cases e
theorem Grd.back {news news' : Ledg} {h g h' : Heap} {L : Addr} {m : Str → Option Value} (G : Grd news h g) (F : Fr g L h' m) (N : News g L h' news') : Back news h h' news' where
  keep := fun b o e n => F.keep b o (G.keep b o e n)
  new := fun p hp => G.none _ (N p hp).2.2
/-- a call from any def's frame: what holds behind it -/
def CallOk (w : World) (mean : ExcName → Option Value) (mg mb : Str → Option Value) (news : Ledg) (D : Nat) (f : Addr) (args : List Value) (Post : Value → Ledg → Prop) : Prop :=
  ∀ (dp un : Nat) (gd : Option (List Code)) (cn : Str) (cs : Scope) (a' : Addr) (ccd : Value) (cl : List (Str × Addr)) (outer : List Env) (A₀ : Around) (base h₀ : Heap) (L : Addr) (m : Str → Option Value) (s : Shared) (Q E : Value → Shared → Prop),
    Below A₀ base outer h₀ → Fr h₀ L s.heap m → (hd.heap_1 w.params).In h₀ → News h₀ L s.heap news → Top topProg LO mean mg mb h₀ → cs.kind = .function →
    dp + D < recursionLimit → un + 8 * D < cLine →
    (∀ (r : Value) (news' : Ledg) (h' : Heap) (tk' : Nat), Fr h₀ L h' m → News h₀ L h' news' → Back news s.heap h' news' → Post r news' → Q r { s with heap := h', toks := tk' }) →
      wpAny (model Challenge.rw_re0104_01.row.prog w) (ktrTop dp un gd cn cs L a' ccd cl outer) (call (.ref f) args) Q E s
theorem CallOk.use {w : World} {mean : ExcName → Option Value} {mg mb : Str → Option Value} {news : Ledg} {D : Nat} {f : Addr} {args : List Value} {Post : Value → Ledg → Prop} (C : CallOk w mean mg mb news D f args Post)
    {dp un : Nat} {gd : Option (List Code)} {cn : Str} {cs : Scope} {a' : Addr} {ccd : Value} {cl : List (Str × Addr)} {outer : List Env} {A₀ : Around} {base h₀ : Heap} {L : Addr} {m : Str → Option Value} {s : Shared} {Q E : Value → Shared → Prop}
    (B : Below A₀ base outer h₀) (F : Fr h₀ L s.heap m) (X : (hd.heap_1 w.params).In h₀) (N : News h₀ L s.heap news) (T : Top topProg LO mean mg mb h₀) (hk : cs.kind = .function)
    (hd : dp + D < recursionLimit) (hu : un + 8 * D < cLine)
    (ret : ∀ (r : Value) (news' : Ledg) (h' : Heap) (tk' : Nat), Fr h₀ L h' m → News h₀ L h' news' → Back news s.heap h' news' → Post r news' → Q r { s with heap := h', toks := tk' }) :
      wpAny (model Challenge.rw_re0104_01.row.prog w) (ktrTop dp un gd cn cs L a' ccd cl outer) (call (.ref f) args) Q E s :=
  C _ _ _ _ _ _ _ _ _ _ _ _ _ _ _ _ _ B F X N T hk hd hu ret
abbrev tup2 (a b : Value) : Obj := { cls := .type "tuple", data := .seq #[a, b] }
section
variable {prog : Program} {w : World} {A A₀ : Around} {s : Shared} {K : Frag} {L : Addr} {h₀ base : Heap} {m mg mb : Str → Option Value} {news : Ledg} {p : Program} {loose : List Str} {mean : ExcName → Option Value}
theorem enter_of {env : Env} {outer : List Env} {R : Result → Shared → Prop} {name qual : Str} {params : Arguments} {body : List Stmt} {scope : Scope} {cl : List (Str × Addr)} {dV kV doc pm cdv ct : Value} {an : Option Addr} {f : Addr} {args : Args} {binds : List (Str × Value)} {fo : Obj}
    (B : Below A₀ base outer h₀) (F : Fr h₀ L s.heap m) (X₀ : K.In h₀) (N : News h₀ L s.heap news) (T : Top p loose mean mg mb h₀) (hA : A.frames = some (env :: outer)) (hf : env.frame = some L) (hke : env.scope.kind = .function)
    (ho : s.heap.get? f = some fo) (hd : fo.data = .func (fnX name qual params body scope cl dV kV doc pm an cdv ct)) (hcd : s.heap.CodeRec cdv qual) (hroom : A.depth < recursionLimit)
    (hbind : BindsTo s (fnX name qual params body scope cl dV kV doc pm an cdv ct) args binds) (hloc : ∀ y ∈ binds, scope.names.lookup y.1 = some .local)
    (h : ∀ g L' h₁, Grd news s.heap g → Fr h₀ L g m → Fr g L' h₁ (fun y => binds.reverse.lookup y) → News g L' h₁ news → Below A base (env :: outer) g → K.In g → Top p loose mean mg mb g → (∀ p ∈ news, p.1 < L') →
      wpAny (model prog w) (A.deeper (envX qual scope L' f cdv cl)) (execs body (envX qual scope L' f cdv cl))
        (fun fl s' => LeaveK h₀ L m g R (match fl with | .ret v => v | _ => .none) s')
        (fun e s' => wpAny (model prog w) (A.deeper (envX qual scope L' f cdv cl)) (leaving (envX qual scope L' f cdv cl) e) (fun _ s'' => R (.error e) s'') (fun e' s'' => R (.error e') s'') s')
        { s with heap := h₁, toks := s.toks + binds.length })
    (hco : scope.isCoroutine = false) (hgen : scope.isGenerator = false) (hk : scope.kind = .function)
    (hcell : ∀ x ∈ scope.names, x.2 ≠ .cell) : codeAny (model prog w) A (.call (.ref f) args) R s := by
  obtain ⟨FG, BG, st, lv⟩ := groundX (R := R) B F N hA hf hke
  refine codeAny_call_def (fd := fnX name qual params body scope cl dV kV doc pm an cdv ct) (body := body) (binds := binds) hroom ho hd (T.nolimit.keeps F.keep) hcd rfl hbind hcell hloc (fun h₁ hns hk₁ => ?_) hco hgen hk
  exact wpAny_mono (h _ s.heap.objs.size h₁ (grd_hide _ _) FG ⟨hns, fun b o e => hk₁ b o (of_hideAll _ e), Nat.le_of_eq (hideAll_size _ _)⟩
    (fun p hp => ⟨hk₁ _ _ (N p hp).1, Nat.ne_of_lt (Heap.lt_size (N p hp).1), hideAll_none _ (List.mem_map_of_mem hp)⟩) BG (X₀.keeps st) (T.keeps st) (fun p hp => Heap.lt_size (N p hp).1)) (fun fl s' hl => lv _ _ hl) fun _ _ y => y
theorem enter_K {env : Env} {outer : List Env} {R : Result → Shared → Prop} {name qual : Str} {params : Arguments} {body : List Stmt} {scope : Scope} {cl : List (Str × Addr)} {dV kV doc pm cdv ct oc : Value} {an od : Option Addr} {osl : Array (Option Value)} {f : Addr} {args : Args} {binds : List (Str × Value)}
    (B : Below A₀ base outer h₀) (F : Fr h₀ L s.heap m) (X₀ : K.In h₀) (N : News h₀ L s.heap news) (T : Top p loose mean mg mb h₀) (hA : A.frames = some (env :: outer)) (hf : env.frame = some L) (hke : env.scope.kind = .function)
    (ho : K.lookup f = some ⟨oc, od, .func (fnX name qual params body scope cl dV kV doc pm an cdv ct), osl⟩) (hcd : codeIn K cdv qual = true) (hroom : A.depth < recursionLimit)
    (hbind : BindsTo s (fnX name qual params body scope cl dV kV doc pm an cdv ct) args binds) (hloc : ∀ y ∈ binds, scope.names.lookup y.1 = some .local)
    (h : ∀ g L' h₁, Grd news s.heap g → Fr h₀ L g m → Fr g L' h₁ (fun y => binds.reverse.lookup y) → News g L' h₁ news → Below A base (env :: outer) g → K.In g → Top p loose mean mg mb g → (∀ p ∈ news, p.1 < L') →
      wpAny (model prog w) (A.deeper (envX qual scope L' f cdv cl)) (execs body (envX qual scope L' f cdv cl))
        (fun fl s' => LeaveK h₀ L m g R (match fl with | .ret v => v | _ => .none) s')
        (fun e s' => wpAny (model prog w) (A.deeper (envX qual scope L' f cdv cl)) (leaving (envX qual scope L' f cdv cl) e) (fun _ s'' => R (.error e) s'') (fun e' s'' => R (.error e') s'') s')
        { s with heap := h₁, toks := s.toks + binds.length })
    (hco : scope.isCoroutine = false) (hgen : scope.isGenerator = false) (hk : scope.kind = .function)
    (hcell : ∀ x ∈ scope.names, x.2 ≠ .cell) : codeAny (model prog w) A (.call (.ref f) args) R s :=
  enter_of (cl := cl) B F X₀ N T hA hf hke ((X₀.keeps F.keep) _ _ ho) rfl (codeRec_of (X₀.keeps F.keep) hcd) hroom hbind hloc h hco hgen hk hcell
theorem enterC_K {env : Env} {outer : List Env} {R : Result → Shared → Prop} {name qual : Str} {params : Arguments} {body : List Stmt} {scope : Scope} {dV kV doc pm cdv ct oc : Value} {an od : Option Addr} {osl : Array (Option Value)} {f : Addr} {args : Args} {binds : List (Str × Value)}
    (B : Below A₀ base outer h₀) (F : Fr h₀ L s.heap m) (X₀ : K.In h₀) (N : News h₀ L s.heap news) (T : Top p loose mean mg mb h₀) (hA : A.frames = some (env :: outer)) (hf : env.frame = some L) (hke : env.scope.kind = .function)
    (ho : K.lookup f = some ⟨oc, od, .func (fnOf name qual params body scope dV kV doc pm an cdv ct), osl⟩) (hcd : codeIn K cdv qual = true) (hroom : A.depth < recursionLimit)
    (hbind : BindsTo s (fnOf name qual params body scope dV kV doc pm an cdv ct) args binds) (hkind : (binds.all fun y => scope.names.lookup y.1 == some .local || scope.names.lookup y.1 == some .cell) = true)
    (hnd : ((cellsFrom 0 scope.names []).map (·.1)).Nodup)
    (h : ∀ g L' h₁ tk cells, Grd news s.heap g → Fr h₀ L g m → Fr g L' h₁ (bindL (envOfC qual scope L' f cdv).kindOf binds fun _ => none) → News g L' h₁ (cells ++ news) →
      CellsAre (bindC (envOfC qual scope L' f cdv).kindOf binds fun _ => none) (cellsFrom (L' + 1) scope.names []) cells → Below A base (env :: outer) g → K.In g → Top p loose mean mg mb g → (∀ p ∈ news, p.1 < L') →
      wpAny (model prog w) (A.deeper (envOfC qual scope L' f cdv)) (execs body (envOfC qual scope L' f cdv))
        (fun fl s' => LeaveK h₀ L m g R (match fl with | .ret v => v | _ => .none) s')
        (fun e s' => wpAny (model prog w) (A.deeper (envOfC qual scope L' f cdv)) (leaving (envOfC qual scope L' f cdv) e) (fun _ s'' => R (.error e) s'') (fun e' s'' => R (.error e') s'') s')
        { s with heap := h₁, toks := tk })
    (hco : scope.isCoroutine = false) (hgen : scope.isGenerator = false) (hk : scope.kind = .function) : codeAny (model prog w) A (.call (.ref f) args) R s := by
  obtain ⟨FG, BG, st, lv⟩ := groundX (R := R) B F N hA hf hke
  have X := X₀.keeps F.keep
  refine codeAny_call_function (fd := fnOf name qual params body scope dV kV doc pm an cdv ct) hroom (X _ _ ho) rfl hco hgen rfl (codeRec_of X hcd) (hbind _ _ _ _ ?_)
  refine wpAny_newFunctionEnv_cells hk (kindsX hkind _) fun env' he s' x => ?_
  subst he
  refine ⟨(T.nolimit.keeps F.keep).keeps x.toInCall.keep, codeAny_func ?_⟩
  obtain ⟨h₁, tk, rfl, _⟩ := x.done
  have hk₁ := x.toInCall.keep
  obtain ⟨cells, NC, Y⟩ := Cl.news (h₀ := s.heap) (Nat.le_refl _) fun n c hm => ⟨x.cell n c (lookup_of_mem_nodup (cellsFrom_names scope.names 0 (s.heap.objs.size + 1) [] [] rfl ▸ hnd) hm), x.above n c hm⟩
  refine wpAny_mono (h _ s.heap.objs.size h₁ tk cells (grd_hide _ _) FG ⟨x.toInCall.ns, fun b o e => hk₁ b o (of_hideAll _ e), Nat.le_of_eq (hideAll_size _ _)⟩ (fun p hp => ?_) Y BG (X₀.keeps st) (T.keeps st) (fun p hp => Heap.lt_size (N p hp).1)) (fun fl s' hl => lv _ _ hl) fun _ _ y => y
  rcases List.mem_append.mp hp with hp | hp
  · refine ⟨(NC p hp).1, (NC p hp).2.1, ?_⟩
    cases q : (hideAll s.heap (news.map (·.1))).get? p.1 with
    | none => rfl
    | some o => have := of_hideAll _ q; rw [(NC p hp).2.2] at this; cases this
  · exact ⟨hk₁ _ _ (N p hp).1, Nat.ne_of_lt (Heap.lt_size (N p hp).1), hideAll_none _ (List.mem_map_of_mem hp)⟩
end
theorem ledOf {h₀ h : Heap} {L : Addr} {news : Ledg} (_ : News h₀ L h news) : ∃ led, led = news := ⟨_, rfl⟩
theorem newsSub {h₀ h : Heap} {L : Addr} {news news' : Ledg} (N : News h₀ L h news') (hs : ∀ p ∈ news, p ∈ news') : News h₀ L h news := fun p hp => N p (hs p hp)
theorem ledCut {P : Prop} {h₀ h : Heap} {L D : Addr} {o : Obj} {news : Ledg} {g : Obj → Ledg} (_ : News h₀ L h news) (_ : UpdF D o news g) (k : ∀ led : Obj → Ledg, led = g → P) : P := k g rfl
/-- a table of code objects: empty, or with the one inner def's -/
inductive Tab (line col : Nat) (q : Str) : Array Value → Ledg → Prop
  | none : Tab line col q #[] []
  | some {c : Addr} {oc : Obj} {vs : Array Value} {t : Tok} : oc.data = .fields vs → vs[1]? = .some (.str q t) → Tab line col q #[rawInt line, rawInt col, .ref c] [(c, oc)]
end Mine
end
-- CDIV
section
open PySem PySem.W PyProof.Rows
set_option maxRecDepth 100000
set_option maxHeartbeats 8000000
namespace Mine
theorem off1 : True := by
  w_top off
  k_with_none
  exact trivial
theorem fill3 : (Challenge.rw_re0104_01, hd.heap_1) = (Challenge.rw_re0104_01, hd.heap_1) := by
  k_fill
  rfl
theorem div2n1n_ok (w : World) (mean : ExcName → Option Value) (mg mb : Str → Option Value) (a b n : Int) (ta tb tn : Tok) (hb : b ≠ 0) (hp : b.natAbs.log2 < 9000) (hA : (Builtin.Int.intBits a : Int) - n ≤ 4000) :
    CallOk w mean mg mb [] 2 28 [.int a ta, .int b tb, .int n tn] (fun r news' => ∃ r' t1 t2, r = .ref r' ∧ news' = [(r', tup2 (.int (a.fdiv b) t1) (.int (a.fmod b) t2))]) := by
  unfold CallOk
  intro dp un gd cn cs a' ccd cl outer A₀ base h₀ L m s Q E B F X N T hk hdp hun hret
  refine wpAny_call ?_
  (refine' enter_K ?k1 ?k2 ?k3 ?k4 ?k5 ?kA ?kF ?kK ?k6 ?k7 ?k8 ?k9 ?kB ?_ ?c2 ?c3 ?c4 ?c5; (case kA => exact rfl); (case kF => exact rfl); (case kK => assumption); (case k1 => k_asm); (case k2 => k_asm); (case k3 => k_asm); (case k4 => k_asm); (case k5 => k_asm); (case k6 => k_is); (case k7 => k_is); (case k8 => first | exact room0 hdp | ktr_room); (case k9 => exact BindsTo.of_eq rfl); (case c5 => decide); (case kB => exact locs rfl); (case c2 => exact rfl); (case c3 => exact rfl); (case c4 => exact rfl); k_whole; intro g L' h' G FG F' N' B' X' T' l1; (try dsimp only); (try k_fold))
  k_steps
  with_reducible rename Fr _ _ _ _ => F'
  with_reducible rename News _ _ _ _ => N'
  refine divmod_N F' N' hb ?_ (.inl (PyProof.noPylong_of_log2 hp))
  intro h9 F9 N9
  k_steps
  with_reducible rename Fr h₀ _ _ _ => Fe
  with_reducible rename News h₀ _ _ _ => Ne
  exact hret _ _ _ _ Fe Ne (G.back F9 N9) ⟨_, _, _, rfl, rfl⟩
end Mine
end
-- NestT
section
open PySem PySem.W PyProof.Rows PySem.Calls
set_option maxRecDepth 100000
namespace Mine
theorem updF_own {P : Addr} {o : Obj} : ∀ {own : Ledg}, (∀ q ∈ own, q.1 ≠ P) → UpdF P o (own ++ [(P, o)]) (fun o' => own ++ [(P, o')])
  | [], _ => .head (fun _ h => nomatch h)
  | q :: r, h => .tail (h q (.head _)) (updF_own fun x hx => h x (.tail _ hx))
section
variable {M : Model} {A : Around} {E : Value → Shared → Prop} {s : Shared} {h₀ : Heap} {L a c P : Addr} {m mg mb : Str → Option Value} {cn : Str} {cs : Scope} {ccd : Value} {cl : List (Str × Addr)} {own ex : Ledg}
  {p : Program} {loose : List Str} {mean : ExcName → Option Value} {name qual : Str} {params : Arguments} {body : List Stmt} {scope : Scope} {ps : Array Value} {pos : Pos} {firstLine : Nat} {clos : List (Str × Addr)}
/-- an inner def is made, whether its code stands in the table or not -/
theorem nestT {Q : Value → Shared → Prop} {B : Nat} (F : Fr h₀ L s.heap m) (N : News h₀ L s.heap (own ++ (P, tabObj ps) :: ex)) (T : Top p loose mean mg mb h₀) (C : CodeHd h₀ c P) (hcd : ccd = .ref c) (tab : Tab pos.line pos.col qual ps ex)
    (ho : ∀ q ∈ own, q.1 ≠ P) (hB : ∀ q ∈ ex, @LT.lt Nat _ q.1 B) (hcl : closureFor scope (envX cn cs L a ccd cl) = pure clos)
    (h : ∀ f c' oc vs t ctv doc h' tk, Fr h₀ L h' m →
      News h₀ L h' ((f, fnMade name qual params body scope clos doc ((mg "__name__").getD .none) c' ctv) :: (own ++ [(P, tabObj #[rawInt pos.line, rawInt pos.col, .ref c']), (c', oc)])) →
      oc.data = .fields vs → vs[1]? = some (.str qual t) → (@LT.lt Nat _ c' B ∨ AllLt c' own) → (∀ q ∈ own, q.1 < f) → P < f → c' < f → Q (.ref f) { s with heap := h', toks := tk }) :
    wpAny M A (makeFunction name qual params (.stmts body) scope (envX cn cs L a ccd cl) [] [] [] pos firstLine) Q E s := by
  cases tab with
  | none =>
    refine nest_K F N T C hcd (updF_own ho) trivial rfl hcl ?_
    intro f c' oc vs t ctv doc h' tk F' N' hd hv l1 l2
    refine h f c' oc vs t ctv doc h' tk F' (fun q hq => N' q ?_) hd hv (.inr (allLt_of fun q hq => l1 q (List.mem_append_left _ hq))) (fun q hq => Nat.lt_trans (l1 q (List.mem_append_left _ hq)) l2) (Nat.lt_trans (l1 (P, tabObj #[]) (List.mem_append_right _ (.head _))) l2) l2
    simp only [List.mem_cons, List.mem_append, List.not_mem_nil, or_false] at hq ⊢
    rcases hq with h | h | h | h
    · exact .inl h
    · exact .inr (.inr (.inl h))
    · exact .inr (.inr (.inr (by rw [h]; rfl)))
    · exact .inr (.inl h)
  | @some cc oc vs t hd hv =>
    refine nestHit_K (c' := cc) F N T C hcd (List.mem_append_right _ (.head _)) (by kn_triples) (by kn_hit) hcl ?_
    intro f ctv doc h' tk F' N' l1
    exact h f cc oc vs t ctv doc h' tk F' N' hd hv (.inl (hB _ (.head _))) (fun q hq => l1 q (List.mem_append_left _ hq)) (l1 (P, _) (List.mem_append_right _ (.head _))) (l1 (cc, oc) (List.mem_append_right _ (.tail _ (.head _))))
end
end Mine
end
-- Num
section
open PySem
namespace Mine
/-- the number whose digits, least first, are these -/
def unD (B : Int) : List Int → Int
  | [] => 0
  | d :: r => d + B * unD B r
theorem unD_append (B : Int) : ∀ xs ys : List Int, unD B (xs ++ ys) = unD B xs + B ^ xs.length * unD B ys
  | [], ys => by simp [unD]
  | d :: r, ys => by
    rw [List.cons_append, unD, unD_append B r ys, unD, List.length_cons, Int.pow_succ, Int.mul_add]
    rw [Int.mul_comm (B ^ r.length) B, Int.mul_assoc]; omega
theorem unD_nonneg {B : Int} (hB : 0 ≤ B) : ∀ {xs : List Int}, (∀ d ∈ xs, 0 ≤ d) → 0 ≤ unD B xs
  | [], _ => Int.le_refl 0
  | d :: r, h => by
    have h1 := h d (.head _)
    have h2 := unD_nonneg hB (xs := r) fun x hx => h x (.tail _ hx)
    have := Int.mul_nonneg hB h2
    rw [unD]; omega
theorem unD_le {B C : Int} (hB : 2 ≤ B) (hC : 0 ≤ C) : ∀ {xs : List Int}, (∀ d ∈ xs, d < C) → unD B xs + C ≤ C * B ^ xs.length
  | [], _ => by simp [unD]
  | d :: r, h => by
    have h1 := h d (.head _)
    have h2 := unD_le hB hC (xs := r) fun x hx => h x (.tail _ hx)
    rw [unD, List.length_cons, Int.pow_succ]
    generalize B ^ r.length = P at h2
    generalize unD B r = u at h2
    have h3 : B * (u + C) ≤ B * (C * P) := Int.mul_le_mul_of_nonneg_left h2 (by omega)
    rw [Int.mul_add] at h3
    have h4 : 2 * C ≤ B * C := Int.mul_le_mul_of_nonneg_right hB hC
    have h5 : C * (P * B) = B * (C * P) := by rw [← Int.mul_assoc, Int.mul_comm]
    omega
theorem two_le_pow {n : Nat} (h : 0 < n) : (2 : Int) ≤ 2 ^ n := by
  obtain ⟨k, rfl⟩ : ∃ k, n = k + 1 := ⟨n - 1, by omega⟩
  have : (0 : Int) < 2 ^ k := Int.pow_pos (by decide)
  rw [Int.pow_succ]; omega
theorem pow_le_pow2 {a b : Nat} (h : a ≤ b) : (2 : Int) ^ a ≤ 2 ^ b := by
  have : (2 : Nat) ^ a ≤ 2 ^ b := Nat.pow_le_pow_right (by decide) h
  have h2 : ((2 ^ a : Nat) : Int) ≤ ((2 ^ b : Nat) : Int) := Int.ofNat_le.mpr this
  rw [Int.natCast_pow, Int.natCast_pow] at h2
  exact h2
theorem bits_of_lt {x : Int} {k : Nat} (h0 : 0 ≤ x) (h : x < 2 ^ k) : Builtin.Int.intBits x ≤ k := by
  refine PyProof.Rows.intBits_le ?_
  have h2 : ((2 : Int) ^ k) = ((2 ^ k : Nat) : Int) := by rw [Int.natCast_pow]; rfl
  rw [h2] at h
  omega
theorem unD_bits {n : Int} (hn : 0 < n) (hn2 : n < 200) {xs : List Int} (hl : xs.length < 10) (h : ∀ d ∈ xs, 0 ≤ d ∧ d < 2 ^ 1000) : 0 ≤ unD (2 ^ n.toNat) xs ∧ Builtin.Int.intBits (unD (2 ^ n.toNat) xs) ≤ 3000 := by
  have h0 := unD_nonneg (B := 2 ^ n.toNat) (Int.le_of_lt (Int.pow_pos (by decide))) fun d hd => (h d hd).1
  refine ⟨h0, bits_of_lt h0 ?_⟩
  have h1 := unD_le (B := 2 ^ n.toNat) (C := 2 ^ 1000) (two_le_pow (by omega)) (Int.le_of_lt (Int.pow_pos (by decide))) (fun d hd => (h d hd).2)
  have h2 : ((2 : Int) ^ 1000) * (2 ^ n.toNat) ^ xs.length = 2 ^ (1000 + n.toNat * xs.length) := by rw [← Int.pow_mul, ← Int.pow_add]
  have h3 : n.toNat * xs.length ≤ 199 * 9 := Nat.mul_le_mul (by omega) (by omega)
  have h4 := pow_le_pow2 (a := 1000 + n.toNat * xs.length) (b := 3000) (by omega)
  have h5 : (0 : Int) < 2 ^ 1000 := Int.pow_pos (by decide)
  rw [h2] at h1
  generalize (2 : Int) ^ 1000 = P at *
  generalize (2 : Int) ^ 3000 = R at *
  generalize (2 : Int) ^ (1000 + n.toNat * xs.length) = S at *
  omega
theorem take_drop_split {α : Type} (xs : List α) (a p q : Nat) : (xs.drop a).take (p + q) = (xs.drop a).take p ++ (xs.drop (a + p)).take q := by
  rw [List.take_add, List.drop_drop]
theorem unD_split {n Lo mid Hi : Int} {ns : List Int} (hn : 0 < n) (h0 : 0 ≤ Lo) (h1 : Lo < mid) (h2 : mid < Hi) (h3 : Hi ≤ ns.length) :
    unD (2 ^ n.toNat) ((ns.drop mid.toNat).take (Hi - mid).toNat) * 2 ^ ((mid - Lo) * n).toNat + unD (2 ^ n.toNat) ((ns.drop Lo.toNat).take (mid - Lo).toNat) = unD (2 ^ n.toNat) ((ns.drop Lo.toNat).take (Hi - Lo).toNat) := by
  have e : (Hi - Lo).toNat = (mid - Lo).toNat + (Hi - mid).toNat := by omega
  have e2 : Lo.toNat + (mid - Lo).toNat = mid.toNat := by omega
  rw [e, take_drop_split, unD_append, e2]
  have e3 : ((ns.drop Lo.toNat).take (mid - Lo).toNat).length = (mid - Lo).toNat := by
    rw [List.length_take, List.length_drop]; omega
  have e4 : ((mid - Lo) * n).toNat = n.toNat * (mid - Lo).toNat := by
    rw [Int.toNat_mul (by omega) (by omega), Nat.mul_comm]
  rw [e3, e4, ← Int.pow_mul]
  generalize (2 : Int) ^ (n.toNat * (mid - Lo).toNat) = P
  rw [Int.mul_comm, Int.add_comm]
/-- the digits of a number, least first; the last one holds the rest -/
def digs (B : Int) : Nat → Int → List Int
  | 0, _ => []
  | 1, x => [x]
  | k + 2, x => x % B :: digs B (k + 1) (x / B)
theorem digs_length (B : Int) : ∀ (k : Nat) (x : Int), (digs B k x).length = k
  | 0, _ => rfl
  | 1, _ => rfl
  | k + 2, x => by rw [digs, List.length_cons, digs_length B (k + 1)]
theorem unD_digs (B : Int) : ∀ (k : Nat) (x : Int), unD B (digs B (k + 1) x) = x
  | 0, x => by simp [digs, unD]
  | k + 1, x => by
    rw [digs, unD, unD_digs B k (x / B)]
    have := Int.emod_add_mul_ediv x B
    omega
theorem digs_bound {B : Int} (hB : 0 < B) : ∀ (k : Nat) (x : Int), 0 ≤ x → x < B ^ (k + 1) → ∀ d ∈ digs B (k + 1) x, 0 ≤ d ∧ d < B
  | 0, x, h0, h1, d, hd => by
    rw [digs] at hd
    rw [List.mem_singleton.mp hd]
    exact ⟨h0, by rw [show (0 + 1) = 1 from rfl, Int.pow_succ, Int.pow_zero, Int.one_mul] at h1; exact h1⟩
  | k + 1, x, h0, h1, d, hd => by
    rw [digs] at hd
    rcases List.mem_cons.mp hd with rfl | hd
    · exact ⟨Int.emod_nonneg _ (by omega), Int.emod_lt_of_pos _ hB⟩
    · refine digs_bound hB k (x / B) (Int.ediv_nonneg h0 (by omega)) ?_ d hd
      refine Int.ediv_lt_of_lt_mul hB ?_
      rw [← Int.pow_succ]; exact h1
theorem digs_split {B : Int} (hB : 0 < B) : ∀ (p q : Nat) (x : Int), digs B (p + 1) (x % B ^ (p + 1)) ++ digs B (q + 1) (x / B ^ (p + 1)) = digs B (p + 1 + (q + 1)) x
  | 0, q, x => by
    rw [show 0 + 1 + (q + 1) = q + 2 by omega, digs, digs, show B ^ (0 + 1) = B by rw [Int.pow_succ, Int.pow_zero, Int.one_mul]]
    rfl
  | p + 1, q, x => by
    have ih := digs_split hB p q (x / B)
    have e1 : x % B ^ (p + 1 + 1) % B = x % B := Int.emod_emod_of_dvd x ⟨B ^ (p + 1), by rw [Int.pow_succ, Int.mul_comm]⟩
    have hP : 0 < B ^ (p + 1) := Int.pow_pos hB
    have e2 : x % B ^ (p + 1 + 1) / B = x / B % B ^ (p + 1) := by
      have a1 := Int.emod_add_mul_ediv x (B ^ (p + 1 + 1))
      have a2 : B ^ (p + 1 + 1) = B * B ^ (p + 1) := by rw [Int.pow_succ, Int.mul_comm]
      rw [a2] at a1 ⊢
      have a3 : x / B = (x % (B * B ^ (p + 1))) / B + B ^ (p + 1) * (x / (B * B ^ (p + 1))) := by
        have a4 : x / B = (x % (B * B ^ (p + 1)) + B * B ^ (p + 1) * (x / (B * B ^ (p + 1)))) / B := by rw [a1]
        rw [Int.mul_assoc, Int.add_mul_ediv_left _ _ (by omega)] at a4
        exact a4
      rw [a3, Int.add_mul_emod_self_left]
      refine (Int.emod_eq_of_lt (Int.ediv_nonneg (Int.emod_nonneg _ ?_) (by omega)) (Int.ediv_lt_of_lt_mul hB ?_)).symm
      · exact Int.ne_of_gt (Int.mul_pos hB hP)
      · rw [Int.mul_comm (B ^ (p + 1)) B]; exact Int.emod_lt_of_pos _ (Int.mul_pos hB hP)
    have e3 : x / B ^ (p + 1 + 1) = x / B / B ^ (p + 1) := by
      rw [show B ^ (p + 1 + 1) = B * B ^ (p + 1) by rw [Int.pow_succ, Int.mul_comm], Int.ediv_ediv_of_nonneg (by omega)]
    rw [show p + 1 + 1 + (q + 1) = (p + 1 + q) + 2 by omega, digs, digs, e1, e2, e3, List.cons_append, ih, show p + 1 + (q + 1) = p + 1 + q + 1 by omega]
theorem land_high (x k : Nat) : x &&& (x / 2 ^ k * 2 ^ k) = x / 2 ^ k * 2 ^ k := by
  apply Nat.eq_of_testBit_eq
  intro i
  rw [Nat.testBit_and, Nat.mul_comm, Nat.testBit_two_pow_mul, Nat.testBit_div_two_pow]
  by_cases h : k ≤ i
  · simp only [h, decide_true, Bool.true_and]
    rw [show i - k + k = i by omega, Bool.and_self]
  · simp [h]
theorem xor_low {x : Int} (k : Nat) (h : 0 ≤ x) : Builtin.bitXor x (x.fdiv (2 ^ k) * 2 ^ k) = x % 2 ^ k := by
  obtain ⟨n, rfl⟩ := Int.eq_ofNat_of_zero_le h
  have hp : ((2 : Int) ^ k) = ((2 ^ k : Nat) : Int) := by rw [Int.natCast_pow]; rfl
  have e1 : ((n : Int)).fdiv (2 ^ k) * 2 ^ k = ((n / 2 ^ k * 2 ^ k : Nat) : Int) := by
    rw [Int.fdiv_eq_ediv_of_nonneg _ (Int.le_of_lt (Int.pow_pos (by decide))), hp, ← Int.natCast_ediv, ← Int.natCast_mul]
  rw [e1, PyProof.Rows.bitXor_and, PyProof.Rows.bitAnd_pp (Int.natCast_nonneg _) (Int.natCast_nonneg _), Int.toNat_natCast, Int.toNat_natCast, land_high, hp, ← Int.natCast_emod]
  have := Nat.mod_add_div n (2 ^ k)
  rw [Nat.mul_comm] at this
  omega
/-- the places Lo, .. Hi - 1 written anew -/
def put (ns : List Int) (Lo Hi : Nat) (ds : List Int) : List Int := ns.take Lo ++ ds ++ ns.drop Hi
theorem put_length {ns ds : List Int} {Lo Hi : Nat} (h1 : Lo ≤ Hi) (h2 : Hi ≤ ns.length) (hd : ds.length = Hi - Lo) : (put ns Lo Hi ds).length = ns.length := by
  unfold put
  rw [List.length_append, List.length_append, List.length_take, List.length_drop, hd]; omega
theorem put_put {ns ds es : List Int} {Lo mid Hi : Nat} (h1 : Lo ≤ mid) (h2 : mid ≤ Hi) (h3 : Hi ≤ ns.length) (hd : ds.length = mid - Lo) : put (put ns Lo mid ds) mid Hi es = put ns Lo Hi (ds ++ es) := by
  unfold put
  have e0 : (ns.take Lo ++ ds).length = mid := by rw [List.length_append, List.length_take, hd]; omega
  rw [List.take_append_of_le_length (by omega), ← e0, List.take_length, e0]
  rw [List.drop_append, List.drop_of_length_le (by omega), List.nil_append, List.drop_drop, e0, show mid + (Hi - mid) = Hi by omega]
  simp
theorem put_one {ns : List Int} {Lo Hi : Nat} {x : Int} (h : Lo + 1 = Hi) (h2 : Hi ≤ ns.length) : ns.set Lo x = put ns Lo Hi [x] := by
  subst h
  unfold put
  rw [List.set_eq_take_append_cons_drop, if_pos (by omega)]
  simp
theorem i2d_join {n x Lo mid Hi : Int} (hn : 0 < n) (h2 : Lo < mid) (h3 : mid < Hi) :
    digs (2 ^ n.toNat) (mid - Lo).toNat (x % 2 ^ ((mid - Lo) * n).toNat) ++ digs (2 ^ n.toNat) (Hi - mid).toNat (x.fdiv (2 ^ ((mid - Lo) * n).toNat)) = digs (2 ^ n.toNat) (Hi - Lo).toNat x := by
  obtain ⟨p, hp⟩ : ∃ p, (mid - Lo).toNat = p + 1 := ⟨(mid - Lo).toNat - 1, by omega⟩
  obtain ⟨q, hq⟩ : ∃ q, (Hi - mid).toNat = q + 1 := ⟨(Hi - mid).toNat - 1, by omega⟩
  have e4 : ((mid - Lo) * n).toNat = n.toNat * (p + 1) := by
    rw [Int.toNat_mul (by omega) (by omega), Nat.mul_comm, hp]
  rw [Int.fdiv_eq_ediv_of_nonneg _ (Int.le_of_lt (Int.pow_pos (by decide))), e4, hp, hq, show (Hi - Lo).toNat = p + 1 + (q + 1) by omega, Int.pow_mul]
  exact digs_split (Int.pow_pos (by decide)) p q x
theorem emod_pow_lt {x P : Int} {k : Nat} (h0 : 0 ≤ x) (h1 : x < P) : 0 ≤ x % 2 ^ k ∧ x % 2 ^ k < P := by
  have hp : (0 : Int) < 2 ^ k := Int.pow_pos (by decide)
  have a := Int.emod_nonneg x (Int.ne_of_gt hp)
  have b : x % 2 ^ k ≤ x := by
    have c := Int.emod_add_mul_ediv x (2 ^ k)
    have d : 0 ≤ 2 ^ k * (x / 2 ^ k) := Int.mul_nonneg (Int.le_of_lt hp) (Int.ediv_nonneg h0 (Int.le_of_lt hp))
    omega
  exact ⟨a, by omega⟩
theorem fdiv_pow_lt {x P : Int} {k : Nat} (h0 : 0 ≤ x) (h1 : x < P) : 0 ≤ x.fdiv (2 ^ k) ∧ x.fdiv (2 ^ k) < P := by
  have hp : (0 : Int) < 2 ^ k := Int.pow_pos (by decide)
  rw [Int.fdiv_eq_ediv_of_nonneg _ (Int.le_of_lt hp)]
  have a := Int.ediv_nonneg h0 (Int.le_of_lt hp)
  have b := Int.ediv_le_self (2 ^ k) h0
  exact ⟨a, by omega⟩
theorem put_all {ns ds : List Int} : put ns 0 ns.length ds = ds := by
  unfold put; simp
end Mine
end
-- CD2I
section
open PySem PySem.W PyProof.Rows PySem.Calls
set_option maxRecDepth 100000
set_option maxHeartbeats 8000000
namespace Mine
theorem off2 : True := by
  w_top off
  k_with_none
  exact trivial
theorem fill4 : (Challenge.rw_re0104_01, hd.heap_1) = (Challenge.rw_re0104_01, hd.heap_1) := by
  k_fill
  rfl
theorem lineCD2I1 : True := by
  k_with "binaryOp LShift int int" => (refine lshift_int (by assumption) (by assumption) ?_)
  exact trivial
abbrev qD2I : Str := qualnameIn (envOfC (Str.ofString "_digits2int") default 0 49 (Value.ref 48)) (Str.ofString "inner") (Str.ofString "inner")
theorem unD_one {B Lo Hi : Int} {ns : List Int} (h : Lo + 1 = Hi) (h0 : 0 ≤ Lo) (h3 : Hi ≤ ns.length) : unD B ((ns.drop Lo.toNat).take (Hi - Lo).toNat) = ns.getD Lo.toNat 0 := by
  have e : (Hi - Lo).toNat = 1 := by omega
  have hl : Lo.toNat < ns.length := by omega
  rw [e, List.drop_eq_getElem_cons hl, List.take_succ_cons, List.take_zero, unD, unD, Int.mul_zero, Int.add_zero]
  simp [List.getD, hl]
theorem len_td {α : Type} (xs : List α) (a b : Nat) {k : Nat} (h : xs.length < k) : ((xs.drop a).take b).length < k := by
  rw [List.length_take, List.length_drop]; omega
theorem td_all (ns : List Int) : (ns.drop (Int.toNat 0)).take ((ns.length : Int) - 0).toNat = ns := by
  rw [Int.toNat_zero, List.drop_zero, Int.sub_zero, Int.toNat_natCast, List.take_length]
theorem mem_td {α : Type} {xs : List α} {a b : Nat} {d : α} (h : d ∈ (xs.drop a).take b) : d ∈ xs := List.mem_of_mem_drop (List.mem_of_mem_take h)
theorem le_mul_bound {a n : Int} (h0 : 0 ≤ a) (h1 : a ≤ 10) (h2 : 0 ≤ n) (h3 : n ≤ 200) : a * n ≤ 2000 := by
  have := Int.mul_le_mul h1 h3 h2 (by decide)
  omega
theorem d2i (w : World) (mean : ExcName → Option Value) (mg mb : Str → Option Value) (l : Addr) (vs : List Value) (ns : List Int) (nn : Nat) (n : Int) (tn : Tok) {ps : Array Value} {ex : Ledg} (ht : Tab 50 4 qD2I ps ex) (hn : 0 < n) (hn2 : n < 200) (hI : IntsAre vs ns) (hl : 0 < ns.length) (hl2 : ns.length < 10) (h44 : l ≠ 44) (hB : ∀ d ∈ ns, 0 ≤ d ∧ d < 2 ^ 1000) :
    CallOk w mean mg mb ((l, listOf vs.toArray nn) :: (44, tabObj ps) :: ex) 20 49 [.ref l, .int n tn] (fun r news' => ∃ ps' ex', Tab 50 4 qD2I ps' ex' ∧ news' = (l, listOf vs.toArray nn) :: (44, tabObj ps') :: ex' ∧ ∃ t, r = .int (unD (2 ^ n.toNat) ns) t) := by
  unfold CallOk
  intro dp un gd cn cs a' ccd cl outer A₀ base h₀ L m s Q E B F X N T hk hdp hun hret
  refine wpAny_call ?_
  (refine' enterC_K ?k1 ?k2 ?k3 ?k4 ?k5 ?kA ?kF ?kK ?k6 ?k7 ?k8 ?k9 ?kB ?kD ?_ ?c2 ?c3 ?c4; (case kA => exact rfl); (case kF => exact rfl); (case kK => assumption); (case k1 => k_asm); (case k2 => k_asm); (case k3 => k_asm); (case k4 => k_asm); (case k5 => k_asm); (case k6 => k_is); (case k7 => k_is); (case k8 => first | exact room0 hdp | ktr_room); (case k9 => exact BindsTo.of_eq rfl); (case kB => exact rfl); (case kD => decide +kernel); (case c2 => exact rfl); (case c3 => exact rfl); (case c4 => exact rfl); k_whole; intro g' L' h' tk' cells' G' FG' F' N' Y' B' X' T' l1)
  have ch := codeHd_of_K (c := 48) (P := 44) X' (by kernel_rfl)
  have hexB : ∀ q ∈ ex, @LT.lt Nat _ q.1 L' := fun q hq => l1 q (.tail _ (.tail _ hq))
  k_lt l1
  have hY := CellsAre.three Y'
  refine hideG ?_; intro HP back; obtain ⟨o3, o2, o1, hE, d3, d2, d1⟩ := hY; refine back ?_; clear back HP
  subst hE; clear Y'
  simp only [List.cons_append, List.nil_append] at N'
  dsimp only
  replace d1 : o1.data = .cell (some (.ref l)) := d1
  replace d2 : o2.data = .cell (some (.int n tn)) := d2
  (try k_fold)
  walk1
  (k_dflt (refine' nestDef_K ?zzd0 ?zzk0 ?zza0 ?_; (case zzd0 => exact rfl); (case zzk0 => exact rfl); (case zza0 => exact rfl)))
  with_reducible rename Fr _ _ _ _ => F7
  with_reducible rename News _ _ _ _ => N7
  refine nestT (own := [_, _, _, _]) (B := L') F7 N7 T' ch rfl ht (by k_all) hexB rfl ?_
  intro f c oc vs' t' ct dc h8 tk8 F8 N8 hoc hvs hcc lo lP lc
  simp only [List.cons_append, List.nil_append] at N8
  k_lt lo
  have c1 : @Ne Nat c (L' + 1) := by rcases hcc with h | h <;> first | omega | (simp only [AllLt] at h; omega)
  have c2 : @Ne Nat c (L' + 1 + 1) := by rcases hcc with h | h <;> first | omega | (simp only [AllLt] at h; omega)
  have c3 : @Ne Nat c (L' + 1 + 1 + 1) := by rcases hcc with h | h <;> first | omega | (simp only [AllLt] at h; omega)
  (k_dflt (refine' storeX_C ?zzF ?zzN ?zzc ?zzU ?zzd ?_ ?zza ?zzb; (case zza => rfl); (case zzb => rfl); (case zzF => exact F8); (case zzN => exact N8); (case zzc => rfl); (case zzU => k_updF); (case zzd => k_asm); k_whole))
  intro h9 o9 F9 N9 d9; (try dsimp only at N9)
  clear F8 N8 F7 N7
  obtain ⟨led, hled⟩ := ledOf N9
  have key : ∀ (k : Nat) (Lo Hi : Int) (t1 t2 : Tok), 0 ≤ Lo → Lo < Hi → Hi ≤ ns.length → Hi - Lo ≤ k → CallOk w mean mg mb led (k + 1) f [.int Lo t1, .int Hi t2] (fun r news' => news' = led ∧ ∃ t, r = .int (unD (2 ^ n.toNat) ((ns.drop Lo.toNat).take (Hi - Lo).toNat)) t) := by
    clear F9 N9 G' B' X' T' FG' hret B F X N T hdp hun hk
    intro k
    induction k with
    | zero => intro Lo Hi t1 t2 h1 h2 h3 h4; omega
    | succ k ih =>
      intro Lo Hi t1 t2 h1 h2 h3 h4
      unfold CallOk
      intro dp un gd cn cs a' ccd cl outer A₀ base h₀ L m s Q E B F X N T hk hdp hun hret
      subst hled
      refine wpAny_call ?_
      (refine' enter_of ?k1 ?k2 ?k3 ?k4 ?k5 ?kA ?kF ?kK ?k6 ?kd ?k7 ?k8 ?k9 ?kB ?_ ?c2 ?c3 ?c4 ?c5; (case kA => exact rfl); (case kF => exact rfl); (case kK => assumption); (case k1 => k_asm); (case k2 => k_asm); (case k3 => exact X); (case k4 => exact N); (case k5 => k_asm); (case k6 => exact N.get (by k_mem)); (case kd => exact rfl); (case k7 => exact codeRec_news N (by k_mem) hoc hvs); (case k8 => first | exact room0 hdp | ktr_room); (case k9 => exact BindsTo.of_eq rfl); (case c5 => decide); (case kB => exact locs rfl); (case c2 => exact rfl); (case c3 => exact rfl); (case c4 => exact rfl); k_whole; intro g L' h' G FG F' N' B' X' T' l1; (try dsimp only); (try k_fold))
      have e2 : ((2 : Int) ^ Int.toNat 1) = 2 := rfl
      have hm := Int.fdiv_eq_ediv_of_nonneg (Lo + Hi) (b := 2 ^ Int.toNat 1) (by decide)
      k_steps
      · with_reducible rename Fr g _ _ _ => Fg
        with_reducible rename News g _ _ _ => Ng
        have heq : Lo + 1 = Hi := by assumption
        refine hret _ _ _ _ (by k_asm) (by k_asm) (G.back Fg Ng) ⟨rfl, _, congrArg (fun x => Value.int x _) (unD_one heq h1 h3).symm⟩
      · with_reducible rename Fr _ _ _ _ => F8
        with_reducible rename News _ _ _ _ => N8
        have hne : Lo + 1 ≠ Hi := by assumption
        generalize hmid : (Lo + Hi).fdiv (2 ^ Int.toNat 1) = mid at *
        rw [e2] at hm
        refine CallOk.use (ih _ _ _ _ (by omega) (by omega) (by omega) (by omega)) B' F8 X' N8 T' rfl (by first | exact room1 hdp rfl | ktr_room) (by first | exact units1 hun rfl | ktr_units) ?_
        intro r1 nw1 h1' tk1 F1 N1 K1 hr1
        obtain ⟨rfl, t1', rfl⟩ := hr1
        have b1 := unD_bits hn hn2 (xs := (ns.drop mid.toNat).take (Hi - mid).toNat) (len_td _ _ _ hl2) (fun d hd => hB d (mem_td hd))
        have sh0 : 0 ≤ (mid - Lo) * n := Int.mul_nonneg (by omega) (by omega)
        have sh1 : (mid - Lo) * n ≤ 2000 := le_mul_bound (by omega) (by omega) (by omega) (by omega)
        have sh2 : ((Builtin.Int.intBits (unD (2 ^ n.toNat) ((ns.drop mid.toNat).take (Hi - mid).toNat)) : Nat) : Int) + (mid - Lo) * n ≤ 2 ^ 27 := by omega
        dsimp only
        k_steps
        with_reducible rename Fr _ _ _ _ => F2
        with_reducible rename News _ _ _ _ => N2
        refine CallOk.use (ih _ _ _ _ (by omega) (by omega) (by omega) (by omega)) B' F2 X' N2 T' rfl (by first | exact room1 hdp rfl | ktr_room) (by first | exact units1 hun rfl | ktr_units) ?_
        intro r2 nw2 h2' tk2 F3 N3 K2 hr2
        obtain ⟨rfl, t2', rfl⟩ := hr2
        dsimp only
        k_steps
        refine hret _ _ _ _ (by k_asm) (by k_asm) (G.back F3 N3) ⟨rfl, _, congrArg (fun x => Value.int x _) (unD_split hn h1 (show Lo < mid by omega) (show mid < Hi by omega) h3)⟩
  subst hled
  k_steps
  refine CallOk.use (key ns.length 0 ns.length _ _ (by omega) (by omega) (by omega) (by omega)) B' F9 X' N9 T' rfl (by first | exact room1 hdp rfl | ktr_room) (by first | exact units1 hun rfl | ktr_units) ?_
  intro r1 nw1 h1' tk1 F1 N1 K1 hr1
  obtain ⟨rfl, t1', rfl⟩ := hr1
  dsimp only
  k_steps
  with_reducible rename Fr h₀ _ _ _ => Fe
  with_reducible rename News h₀ _ _ _ => Ne
  refine hret _ _ _ _ Fe (newsSub (news := [(l, listOf vs.toArray nn), (44, tabObj #[rawInt (50 : Nat), rawInt (4 : Nat), .ref c]), (c, oc)]) Ne (by kcj_all)) (G'.back F1 (newsSub N1 (by kcj_all))) ⟨_, _, Tab.some hoc hvs, rfl, _, congrArg (fun x => Value.int (unD (2 ^ n.toNat) x) _) (td_all ns)⟩
theorem d2i_nil (w : World) (mean : ExcName → Option Value) (mg mb : Str → Option Value) (l : Addr) (vs : List Value) (ns : List Int) (nn : Nat) (n : Int) (tn : Tok) {ps : Array Value} {ex : Ledg} (ht : Tab 50 4 qD2I ps ex) (hI : IntsAre vs ns) (ns0 : ns = []) (hl2 : ns.length < 10) (hl : ¬ 0 < ns.length) (h44 : l ≠ 44) :
    CallOk w mean mg mb ((l, listOf vs.toArray nn) :: (44, tabObj ps) :: ex) 20 49 [.ref l, .int n tn] (fun r news' => ∃ ps' ex', Tab 50 4 qD2I ps' ex' ∧ news' = (l, listOf vs.toArray nn) :: (44, tabObj ps') :: ex' ∧ ∃ t, r = .int (unD (2 ^ n.toNat) ns) t) := by
  unfold CallOk
  intro dp un gd cn cs a' ccd cl outer A₀ base h₀ L m s Q E B F X N T hk hdp hun hret
  refine wpAny_call ?_
  (refine' enterC_K ?k1 ?k2 ?k3 ?k4 ?k5 ?kA ?kF ?kK ?k6 ?k7 ?k8 ?k9 ?kB ?kD ?_ ?c2 ?c3 ?c4; (case kA => exact rfl); (case kF => exact rfl); (case kK => assumption); (case k1 => k_asm); (case k2 => k_asm); (case k3 => k_asm); (case k4 => k_asm); (case k5 => k_asm); (case k6 => k_is); (case k7 => k_is); (case k8 => first | exact room0 hdp | ktr_room); (case k9 => exact BindsTo.of_eq rfl); (case kB => exact rfl); (case kD => decide +kernel); (case c2 => exact rfl); (case c3 => exact rfl); (case c4 => exact rfl); k_whole; intro g' L' h' tk' cells' G' FG' F' N' Y' B' X' T' l1)
  have ch := codeHd_of_K (c := 48) (P := 44) X' (by kernel_rfl)
  have hexB : ∀ q ∈ ex, @LT.lt Nat _ q.1 L' := fun q hq => l1 q (.tail _ (.tail _ hq))
  k_lt l1
  have hY := CellsAre.three Y'
  refine hideG ?_; intro HP back; obtain ⟨o3, o2, o1, hE, d3, d2, d1⟩ := hY; refine back ?_; clear back HP
  subst hE; clear Y'
  simp only [List.cons_append, List.nil_append] at N'
  dsimp only
  replace d1 : o1.data = .cell (some (.ref l)) := d1
  replace d2 : o2.data = .cell (some (.int n tn)) := d2
  (try k_fold)
  walk1
  (k_dflt (refine' nestDef_K ?zzd0 ?zzk0 ?zza0 ?_; (case zzd0 => exact rfl); (case zzk0 => exact rfl); (case zza0 => exact rfl)))
  with_reducible rename Fr _ _ _ _ => F7
  with_reducible rename News _ _ _ _ => N7
  refine nestT (own := [_, _, _, _]) (B := L') F7 N7 T' ch rfl ht (by k_all) hexB rfl ?_
  intro f c oc vs' t' ct dc h8 tk8 F8 N8 hoc hvs hcc lo lP lc
  simp only [List.cons_append, List.nil_append] at N8
  k_lt lo
  have c1 : @Ne Nat c (L' + 1) := by rcases hcc with h | h <;> first | omega | (simp only [AllLt] at h; omega)
  have c2 : @Ne Nat c (L' + 1 + 1) := by rcases hcc with h | h <;> first | omega | (simp only [AllLt] at h; omega)
  have c3 : @Ne Nat c (L' + 1 + 1 + 1) := by rcases hcc with h | h <;> first | omega | (simp only [AllLt] at h; omega)
  (k_dflt (refine' storeX_C ?zzF ?zzN ?zzc ?zzU ?zzd ?_ ?zza ?zzb; (case zza => rfl); (case zzb => rfl); (case zzF => exact F8); (case zzN => exact N8); (case zzc => rfl); (case zzU => k_updF); (case zzd => k_asm); k_whole))
  intro h9 o9 F9 N9 d9; (try dsimp only at N9)
  clear F8 N8 F7 N7
  k_steps
  with_reducible rename Fr h₀ _ _ _ => Fe
  with_reducible rename News h₀ _ _ _ => Ne
  refine hret _ _ _ _ Fe (newsSub (news := [(l, listOf vs.toArray nn), (44, tabObj #[rawInt (50 : Nat), rawInt (4 : Nat), .ref c]), (c, oc)]) Ne (by kcj_all)) (G'.back F9 (newsSub N9 (by kcj_all))) ⟨_, _, Tab.some hoc hvs, rfl, _, congrArg (fun x => Value.int x _) (by rw [ns0]; rfl)⟩
theorem d2i_any (w : World) (mean : ExcName → Option Value) (mg mb : Str → Option Value) (l : Addr) (vs : List Value) (ns : List Int) (nn : Nat) (n : Int) (tn : Tok) {ps : Array Value} {ex : Ledg} (ht : Tab 50 4 qD2I ps ex) (hn : 0 < n) (hn2 : n < 200) (hI : IntsAre vs ns) (hl2 : ns.length < 10) (h44 : l ≠ 44) (hB : ∀ d ∈ ns, 0 ≤ d ∧ d < 2 ^ 1000) :
    CallOk w mean mg mb ((l, listOf vs.toArray nn) :: (44, tabObj ps) :: ex) 20 49 [.ref l, .int n tn] (fun r news' => ∃ ps' ex', Tab 50 4 qD2I ps' ex' ∧ news' = (l, listOf vs.toArray nn) :: (44, tabObj ps') :: ex' ∧ ∃ t, r = .int (unD (2 ^ n.toNat) ns) t) := by
  by_cases hl : 0 < ns.length
  · exact d2i w mean mg mb l vs ns nn n tn ht hn hn2 hI hl hl2 h44 hB
  · exact d2i_nil w mean mg mb l vs ns nn n tn ht hI (List.eq_nil_of_length_eq_zero (by omega)) hl2 hl h44
end Mine
end
-- CI2D
section
open PySem PySem.W PyProof.Rows PySem.Calls
set_option maxRecDepth 100000
set_option maxHeartbeats 8000000
namespace Mine
theorem off3 : True := by
  w_top off
  k_with_none
  exact trivial
theorem fill5 : (Challenge.rw_re0104_01, hd.heap_1) = (Challenge.rw_re0104_01, hd.heap_1) := by
  k_fill
  rfl
theorem lineCI2D1 : True := by
  k_with "binaryOp LShift int int" => (refine lshift_int (by assumption) (by assumption) ?_)
  exact trivial
theorem lineCI2D2 : True := by
  k_with "binaryOp LShift int int" => (refine lshift_int (by assumption) (by assumption) ?_)
  exact trivial
theorem lineCI2D3 : True := by
  k_with "binaryOp RShift int int" => (refine rshift_int (by assumption) ?_)
  exact trivial
abbrev qI2D : Str := qualnameIn (envOfC (Str.ofString "_int2digits") default 0 42 (Value.ref 41)) (Str.ofString "inner") (Str.ofString "inner")
theorem i2d_room {x m n : Int} (h0 : 0 ≤ x) (h1 : x < 2 ^ 3000) (h2 : 0 ≤ m) (h3 : m ≤ 10) (h4 : 0 ≤ n) (h5 : n ≤ 200) : ((Builtin.Int.intBits (x.fdiv (2 ^ (m * n).toNat)) : Nat) : Int) + m * n ≤ 2 ^ 27 := by
  have hb : Builtin.Int.intBits x ≤ 3000 := bits_of_lt h0 h1
  have hb2 : Builtin.Int.intBits (x.fdiv (2 ^ (m * n).toNat)) ≤ 3000 := intBits_fdiv_le hb
  have := le_mul_bound h2 h3 h4 h5
  omega
theorem headOf {h₀ h : Heap} {L D : Addr} {o : Obj} {rest : Ledg} (_ : News h₀ L h ((D, o) :: rest)) : ∃ D', D' = D := ⟨D, rfl⟩
theorem i2d (w : World) (mean : ExcName → Option Value) (mg mb : Str → Option Value) (a n : Int) (ta tn : Tok) {ps : Array Value} {ex : Ledg} (ht : Tab 35 4 qI2D ps ex) (d : Nat) (hn : 0 < n) (hn2 : n < 200) (ha : 0 < a) (hd : ((((Builtin.Int.intBits a) : Nat) : Int) + n - 1).fdiv n = d) (hd0 : 0 < d) (hd2 : d < 10) (hax : a < 2 ^ 3000) :
    CallOk w mean mg mb ((37, tabObj ps) :: ex) 20 42 [.int a ta, .int n tn] (fun r news' => ∃ ps' ex' D vs nn, Tab 35 4 qI2D ps' ex' ∧ news' = (D, listOf vs.toArray nn) :: (37, tabObj ps') :: ex' ∧ r = .ref D ∧ IntsAre vs (digs (2 ^ n.toNat) d a)) := by
  unfold CallOk
  intro dp un gd cn cs a' ccd cl outer A₀ base h₀ L m s Q E B F X N T hk hdp hun hret
  refine wpAny_call ?_
  (refine' enterC_K ?k1 ?k2 ?k3 ?k4 ?k5 ?kA ?kF ?kK ?k6 ?k7 ?k8 ?k9 ?kB ?kD ?_ ?c2 ?c3 ?c4; (case kA => exact rfl); (case kF => exact rfl); (case kK => assumption); (case k1 => k_asm); (case k2 => k_asm); (case k3 => k_asm); (case k4 => k_asm); (case k5 => k_asm); (case k6 => k_is); (case k7 => k_is); (case k8 => first | exact room0 hdp | ktr_room); (case k9 => exact BindsTo.of_eq rfl); (case kB => exact rfl); (case kD => decide +kernel); (case c2 => exact rfl); (case c3 => exact rfl); (case c4 => exact rfl); k_whole; intro g' L' h' tk' cells' G' FG' F' N' Y' B' X' T' l1)
  have ch := codeHd_of_K (c := 41) (P := 37) X' (by kernel_rfl)
  have hexB : ∀ q ∈ ex, @LT.lt Nat _ q.1 L' := fun q hq => l1 q (.tail _ hq)
  k_lt l1
  have hY := CellsAre.three Y'
  refine hideG ?_; intro HP back; obtain ⟨o3, o2, o1, hE, d3, d2, d1⟩ := hY; refine back ?_; clear back HP
  subst hE; clear Y'
  simp only [List.cons_append, List.nil_append] at N'
  dsimp only
  replace d1 : o1.data = .cell (some (.int n tn)) := d1
  replace d2 : o2.data = .cell none := d2
  replace d3 : o3.data = .cell none := d3
  (try k_fold)
  repeat' (first | (k_unfold; (try dsimp only)) | ((fail_if_success (with_reducible show wpAny _ _ (storeName _ _ _) _ _ _)); walk1))
  have hx2 : ∀ q ∈ ex, q.1 ≠ L' + 1 + 1 := fun q hq => Nat.ne_of_lt (Nat.lt_trans (hexB q hq) (Nat.lt_succ_of_lt (Nat.lt_succ_self _)))
  (k_dflt (refine' storeX_C ?zzF ?zzN ?zzc ?zzU ?zzd ?_ ?zza ?zzb; (case zza => rfl); (case zzb => rfl); (case zzF => k_asm); (case zzN => k_asm); (case zzc => rfl); (case zzU => (first | (refine' UpdF.head ?yh; (case yh => exact List.forall_mem_cons.mpr ⟨by k_ne, List.forall_mem_cons.mpr ⟨by k_ne, hx2⟩⟩)) | (refine' UpdF.tail ?ya3 ?yb3; (case ya3 => k_ne); (case yb3 => (first | (refine' UpdF.head ?yh; (case yh => exact List.forall_mem_cons.mpr ⟨by k_ne, List.forall_mem_cons.mpr ⟨by k_ne, hx2⟩⟩)) | (refine' UpdF.tail ?ya2 ?yb2; (case ya2 => k_ne); (case yb2 => (first | (refine' UpdF.head ?yh; (case yh => exact List.forall_mem_cons.mpr ⟨by k_ne, List.forall_mem_cons.mpr ⟨by k_ne, hx2⟩⟩)) | (refine' UpdF.tail ?ya1 ?yb1; (case ya1 => k_ne); (case yb1 => (refine' UpdF.head ?yh; (case yh => exact List.forall_mem_cons.mpr ⟨by k_ne, List.forall_mem_cons.mpr ⟨by k_ne, hx2⟩⟩)))))))))))); (case zzd => k_asm); k_whole))
  intro hz oz Fz Nz dz; (try dsimp only at Nz)
  repeat' (first | (k_unfold; (try dsimp only)) | ((fail_if_success (with_reducible show wpAny _ _ (exec (Stmt.FunctionDef _ _ _ _ _ _ _ _ _ _) _) _ _ _)); walk1))
  with_reducible rename Fr _ _ _ _ => F7
  with_reducible rename News _ _ _ _ => N7
  with_reducible rename IntsAre _ _ => hI0
  obtain ⟨D, hD⟩ := headOf N7
  subst hD
  simp only [hd] at *
  generalize hV0 : (List.replicate (Int.toNat (d : Int)) [Value.int 0 tk']).flatten = vs0 at *
  generalize hNs0 : (List.replicate (Int.toNat (d : Int)) [(0 : Int)]).flatten = ns0 at *
  rename ns0.length = _ => e1
  subst e1
  have hns0 : ns0.length = d := by omega
  clear hV0
  (k_dflt (refine' nestDef_K ?zzd0 ?zzk0 ?zza0 ?_; (case zzd0 => exact rfl); (case zzk0 => exact rfl); (case zza0 => exact rfl)))
  with_reducible rename Fr _ _ _ _ => F7
  with_reducible rename News _ _ _ _ => N7
  refine nestT (own := [_, _, _, _, _]) (B := L') F7 N7 T' ch rfl ht (by k_all) hexB rfl ?_
  intro f c oc vs' t' ct dc h8 tk8 F8 N8 hoc hvs hcc lo lP lc
  simp only [List.cons_append, List.nil_append] at N8
  k_lt lo
  have c1 : @Ne Nat c (L' + 1) := by rcases hcc with h | h <;> first | omega | (simp only [AllLt] at h; omega)
  have c2 : @Ne Nat c (L' + 1 + 1) := by rcases hcc with h | h <;> first | omega | (simp only [AllLt] at h; omega)
  have c4 : @Ne Nat c D := by rcases hcc with h | h <;> first | omega | (simp only [AllLt] at h; omega)
  have c3 : @Ne Nat c (L' + 1 + 1 + 1) := by rcases hcc with h | h <;> first | omega | (simp only [AllLt] at h; omega)
  (k_dflt (refine' storeX_C ?zzF ?zzN ?zzc ?zzU ?zzd ?_ ?zza ?zzb; (case zza => rfl); (case zzb => rfl); (case zzF => exact F8); (case zzN => exact N8); (case zzc => rfl); (case zzU => k_updF); (case zzd => k_asm); k_whole))
  intro h9 o9 F9 N9 d9; (try dsimp only at N9)
  clear F8 N8 F7 N7
  refine' ledCut (D := D) ?zzN ?zzU ?_; (case zzN => exact N9); (case zzU => k_updF)
  intro led hled
  have key : ∀ (k : Nat) (x Lo Hi : Int) (t0 t1 t2 : Tok) (vs : List Value) (ns : List Int) (nn : Nat), IntsAre vs ns → ns.length = d → 0 ≤ Lo → Lo < Hi → Hi ≤ d → Hi - Lo ≤ k → 0 ≤ x → x < 2 ^ 3000 → CallOk w mean mg mb (led (listOf vs.toArray nn)) (k + 1) f [.int x t0, .int Lo t1, .int Hi t2] (fun r news' => r = .none ∧ ∃ vs' nn', IntsAre vs' (put ns Lo.toNat Hi.toNat (digs (2 ^ n.toNat) (Hi - Lo).toNat x)) ∧ news' = led (listOf vs'.toArray nn')) := by
    clear F9 N9 G' B' X' T' FG' hret B F X N T hdp hun hk
    intro k
    induction k with
    | zero => intro x Lo Hi t0 t1 t2 vs ns nn hI hlen h1 h2 h3 h4; omega
    | succ k ih =>
      intro x Lo Hi t0 t1 t2 vs ns nn hI hlen h1 h2 h3 h4 hx0 hx1
      unfold CallOk
      intro dp un gd cn cs a' ccd cl outer A₀ base h₀ L m s Q E B F X N T hk hdp hun hret
      subst hled
      dsimp only at N hret ih
      refine wpAny_call ?_
      (refine' enter_of ?k1 ?k2 ?k3 ?k4 ?k5 ?kA ?kF ?kK ?k6 ?kd ?k7 ?k8 ?k9 ?kB ?_ ?c2 ?c3 ?c4 ?c5; (case kA => exact rfl); (case kF => exact rfl); (case kK => assumption); (case k1 => k_asm); (case k2 => k_asm); (case k3 => exact X); (case k4 => exact N); (case k5 => k_asm); (case k6 => exact N.get (by k_mem)); (case kd => exact rfl); (case k7 => exact codeRec_news N (by k_mem) hoc hvs); (case k8 => first | exact room0 hdp | ktr_room); (case k9 => exact BindsTo.of_eq rfl); (case c5 => decide); (case kB => exact locs rfl); (case c2 => exact rfl); (case c3 => exact rfl); (case c4 => exact rfl); k_whole; intro g L' h' G FG F' N' B' X' T' l1; (try dsimp only); (try k_fold))
      have e2 : ((2 : Int) ^ Int.toNat 1) = 2 := rfl
      have hm := Int.fdiv_eq_ediv_of_nonneg (Lo + Hi) (b := 2 ^ Int.toNat 1) (by decide)
      by_cases hc : Lo + 1 = Hi
      · k_steps
        all_goals first | (exfalso; exact (by assumption : Lo + 1 ≠ Hi) hc) | skip
        with_reducible rename Fr g _ _ _ => Fg
        with_reducible rename News g _ _ _ => Ng
        refine hret _ _ _ _ (by k_asm) (by k_asm) (G.back Fg Ng) ⟨rfl, _, _, ?_, rfl⟩
        rw [show (Hi - Lo).toNat = 1 by omega, digs, ← put_one (by omega) (by omega)]
        assumption
      · have sh0 : 0 ≤ ((Lo + Hi).fdiv (2 ^ Int.toNat 1) - Lo) * n := Int.mul_nonneg (by rw [e2] at hm ⊢; omega) (by omega)
        have sh2 : ((Builtin.Int.intBits (x.fdiv (2 ^ (((Lo + Hi).fdiv (2 ^ Int.toNat 1) - Lo) * n).toNat)) : Nat) : Int) + ((Lo + Hi).fdiv (2 ^ Int.toNat 1) - Lo) * n ≤ 2 ^ 27 := i2d_room hx0 hx1 (by rw [e2] at hm ⊢; omega) (by rw [e2] at hm ⊢; omega) (by omega) (by omega)
        k_steps
        all_goals first | (exfalso; exact hc (by assumption)) | skip
        with_reducible rename Fr _ _ _ _ => F8
        with_reducible rename News _ _ _ _ => N8
        generalize hmid : (Lo + Hi).fdiv (2 ^ Int.toNat 1) = mid at *
        rw [e2] at hm
        rw [xor_low _ hx0]
        have lo1 := emod_pow_lt (k := ((mid - Lo) * n).toNat) hx0 hx1
        have up1 := fdiv_pow_lt (k := ((mid - Lo) * n).toNat) hx0 hx1
        have a1 : Lo < mid := by omega
        have a2 : mid < Hi := by omega
        refine CallOk.use (ih _ Lo mid _ _ _ vs ns nn hI hlen h1 a1 (by omega) (by omega) lo1.1 lo1.2) B' F8 X' N8 T' rfl (by first | exact room1 hdp rfl | ktr_room) (by first | exact units1 hun rfl | ktr_units) ?_
        intro r1 nw1 h1' tk1 F1 N1 K1 hr1
        refine hideG ?_; intro HP back; obtain ⟨rfl, vs1, nn1, hI1, rfl⟩ := hr1; refine back ?_; clear back HP
        have hlen1 : (put ns Lo.toNat mid.toNat (digs (2 ^ n.toNat) (mid - Lo).toNat (x % 2 ^ ((mid - Lo) * n).toNat))).length = d := by
          rw [put_length (by omega) (by omega) (by rw [digs_length]; omega)]; exact hlen
        clear F8 N8
        dsimp only
        k_steps
        with_reducible rename Fr _ _ _ _ => F2
        with_reducible rename News _ _ _ _ => N2
        refine CallOk.use (ih _ mid Hi _ _ _ vs1 _ nn1 hI1 hlen1 (by omega) a2 h3 (by omega) up1.1 up1.2) B' F2 X' N2 T' rfl (by first | exact room1 hdp rfl | ktr_room) (by first | exact units1 hun rfl | ktr_units) ?_
        intro r2 nw2 h2' tk2 F3 N3 K2 hr2
        refine hideG ?_; intro HP back; obtain ⟨rfl, vs2, nn2, hI2, rfl⟩ := hr2; refine back ?_; clear back HP
        dsimp only
        k_steps
        refine hret _ _ _ _ (by k_asm) (by k_asm) (G.back F3 N3) ⟨rfl, vs2, nn2, ?_, rfl⟩
        rw [← i2d_join hn a1 a2, ← put_put (ns := ns) (Lo := Lo.toNat) (mid := mid.toNat) (Hi := Hi.toNat) (by omega) (by omega) (by omega) (by rw [digs_length]; omega)]
        exact hI2
  subst hled
  dsimp only at key
  k_steps
  all_goals first | (exfalso; have ha0 : a = 0 := (by assumption); omega) | skip
  with_reducible rename Fr _ _ _ _ => F2
  with_reducible rename News _ _ _ _ => N2
  refine CallOk.use (key d a 0 _ _ _ _ vs0 ns0 0 hI0 hns0 (by omega) (by omega) (by omega) (by omega) (by omega) hax) B' F2 X' N2 T' rfl (by first | exact room1 hdp rfl | ktr_room) (by first | exact units1 hun rfl | ktr_units) ?_
  intro r1 nw1 h1' tk1 F1 N1 K1 hr1
  refine hideG ?_; intro HP back; obtain ⟨rfl, vs1, nn1, hI1, rfl⟩ := hr1; refine back ?_; clear back HP
  dsimp only
  (try dsimp only at N1)
  k_steps
  with_reducible rename Fr h₀ _ _ _ => Fe
  with_reducible rename News h₀ _ _ _ => Ne
  rw [Int.toNat_zero, Int.sub_zero, Int.toNat_natCast, put_all, hns0] at hI1
  refine hret _ _ _ _ Fe (newsSub (news := [(D, listOf vs1.toArray nn1), (37, tabObj #[rawInt (35 : Nat), rawInt (4 : Nat), .ref c]), (c, oc)]) Ne (by kcj_all)) (G'.back F1 (newsSub N1 (by kcj_all))) ⟨_, _, D, vs1, nn1, Tab.some hoc hvs, rfl, rfl, hI1⟩
theorem i2d_zero (w : World) (mean : ExcName → Option Value) (mg mb : Str → Option Value) (a n : Int) (ta tn : Tok) {ps : Array Value} {ex : Ledg} (ht : Tab 35 4 qI2D ps ex) (d : Nat) (hn : 0 < n) (hn2 : n < 200) (ha : a = 0) (hd : ((((Builtin.Int.intBits a) : Nat) : Int) + n - 1).fdiv n = d) (hd0 : d = 0) :
    CallOk w mean mg mb ((37, tabObj ps) :: ex) 20 42 [.int a ta, .int n tn] (fun r news' => ∃ ps' ex' D vs nn, Tab 35 4 qI2D ps' ex' ∧ news' = (D, listOf vs.toArray nn) :: (37, tabObj ps') :: ex' ∧ r = .ref D ∧ IntsAre vs []) := by
  unfold CallOk
  intro dp un gd cn cs a' ccd cl outer A₀ base h₀ L m s Q E B F X N T hk hdp hun hret
  refine wpAny_call ?_
  (refine' enterC_K ?k1 ?k2 ?k3 ?k4 ?k5 ?kA ?kF ?kK ?k6 ?k7 ?k8 ?k9 ?kB ?kD ?_ ?c2 ?c3 ?c4; (case kA => exact rfl); (case kF => exact rfl); (case kK => assumption); (case k1 => k_asm); (case k2 => k_asm); (case k3 => k_asm); (case k4 => k_asm); (case k5 => k_asm); (case k6 => k_is); (case k7 => k_is); (case k8 => first | exact room0 hdp | ktr_room); (case k9 => exact BindsTo.of_eq rfl); (case kB => exact rfl); (case kD => decide +kernel); (case c2 => exact rfl); (case c3 => exact rfl); (case c4 => exact rfl); k_whole; intro g' L' h' tk' cells' G' FG' F' N' Y' B' X' T' l1)
  have ch := codeHd_of_K (c := 41) (P := 37) X' (by kernel_rfl)
  have hexB : ∀ q ∈ ex, @LT.lt Nat _ q.1 L' := fun q hq => l1 q (.tail _ hq)
  k_lt l1
  have hY := CellsAre.three Y'
  refine hideG ?_; intro HP back; obtain ⟨o3, o2, o1, hE, d3, d2, d1⟩ := hY; refine back ?_; clear back HP
  subst hE; clear Y'
  simp only [List.cons_append, List.nil_append] at N'
  dsimp only
  replace d1 : o1.data = .cell (some (.int n tn)) := d1
  replace d2 : o2.data = .cell none := d2
  replace d3 : o3.data = .cell none := d3
  (try k_fold)
  repeat' (first | (k_unfold; (try dsimp only)) | ((fail_if_success (with_reducible show wpAny _ _ (storeName _ _ _) _ _ _)); walk1))
  have hx2 : ∀ q ∈ ex, q.1 ≠ L' + 1 + 1 := fun q hq => Nat.ne_of_lt (Nat.lt_trans (hexB q hq) (Nat.lt_succ_of_lt (Nat.lt_succ_self _)))
  (k_dflt (refine' storeX_C ?zzF ?zzN ?zzc ?zzU ?zzd ?_ ?zza ?zzb; (case zza => rfl); (case zzb => rfl); (case zzF => k_asm); (case zzN => k_asm); (case zzc => rfl); (case zzU => (first | (refine' UpdF.head ?yh; (case yh => exact List.forall_mem_cons.mpr ⟨by k_ne, List.forall_mem_cons.mpr ⟨by k_ne, hx2⟩⟩)) | (refine' UpdF.tail ?ya3 ?yb3; (case ya3 => k_ne); (case yb3 => (first | (refine' UpdF.head ?yh; (case yh => exact List.forall_mem_cons.mpr ⟨by k_ne, List.forall_mem_cons.mpr ⟨by k_ne, hx2⟩⟩)) | (refine' UpdF.tail ?ya2 ?yb2; (case ya2 => k_ne); (case yb2 => (first | (refine' UpdF.head ?yh; (case yh => exact List.forall_mem_cons.mpr ⟨by k_ne, List.forall_mem_cons.mpr ⟨by k_ne, hx2⟩⟩)) | (refine' UpdF.tail ?ya1 ?yb1; (case ya1 => k_ne); (case yb1 => (refine' UpdF.head ?yh; (case yh => exact List.forall_mem_cons.mpr ⟨by k_ne, List.forall_mem_cons.mpr ⟨by k_ne, hx2⟩⟩)))))))))))); (case zzd => k_asm); k_whole))
  intro hz oz Fz Nz dz; (try dsimp only at Nz)
  repeat' (first | (k_unfold; (try dsimp only)) | ((fail_if_success (with_reducible show wpAny _ _ (exec (Stmt.FunctionDef _ _ _ _ _ _ _ _ _ _) _) _ _ _)); walk1))
  with_reducible rename Fr _ _ _ _ => F7
  with_reducible rename News _ _ _ _ => N7
  with_reducible rename IntsAre _ _ => hI0
  obtain ⟨D, hD⟩ := headOf N7
  subst hD
  simp only [hd] at *
  generalize hV0 : (List.replicate (Int.toNat (d : Int)) [Value.int 0 tk']).flatten = vs0 at *
  generalize hNs0 : (List.replicate (Int.toNat (d : Int)) [(0 : Int)]).flatten = ns0 at *
  rename ns0.length = _ => e1
  subst e1
  have hns0 : ns0.length = d := by omega
  clear hV0
  (k_dflt (refine' nestDef_K ?zzd0 ?zzk0 ?zza0 ?_; (case zzd0 => exact rfl); (case zzk0 => exact rfl); (case zza0 => exact rfl)))
  with_reducible rename Fr _ _ _ _ => F7
  with_reducible rename News _ _ _ _ => N7
  refine nestT (own := [_, _, _, _, _]) (B := L') F7 N7 T' ch rfl ht (by k_all) hexB rfl ?_
  intro f c oc vs' t' ct dc h8 tk8 F8 N8 hoc hvs hcc lo lP lc
  simp only [List.cons_append, List.nil_append] at N8
  k_lt lo
  have c1 : @Ne Nat c (L' + 1) := by rcases hcc with h | h <;> first | omega | (simp only [AllLt] at h; omega)
  have c2 : @Ne Nat c (L' + 1 + 1) := by rcases hcc with h | h <;> first | omega | (simp only [AllLt] at h; omega)
  have c4 : @Ne Nat c D := by rcases hcc with h | h <;> first | omega | (simp only [AllLt] at h; omega)
  have c3 : @Ne Nat c (L' + 1 + 1 + 1) := by rcases hcc with h | h <;> first | omega | (simp only [AllLt] at h; omega)
  (k_dflt (refine' storeX_C ?zzF ?zzN ?zzc ?zzU ?zzd ?_ ?zza ?zzb; (case zza => rfl); (case zzb => rfl); (case zzF => exact F8); (case zzN => exact N8); (case zzc => rfl); (case zzU => k_updF); (case zzd => k_asm); k_whole))
  intro h9 o9 F9 N9 d9; (try dsimp only at N9)
  clear F8 N8 F7 N7
  k_steps
  all_goals first | (exfalso; have ha0 : a ≠ 0 := (by assumption); omega) | skip
  with_reducible rename Fr h₀ _ _ _ => Fe
  with_reducible rename News h₀ _ _ _ => Ne
  have hz : ns0 = [] := List.eq_nil_of_length_eq_zero (by omega)
  subst hz
  refine hret _ _ _ _ Fe (newsSub (news := [(D, listOf vs0.toArray 0), (37, tabObj #[rawInt (35 : Nat), rawInt (4 : Nat), .ref c]), (c, oc)]) Ne (by kcj_all)) (G'.back F9 (newsSub N9 (by kcj_all))) ⟨_, _, D, vs0, 0, Tab.some hoc hvs, rfl, rfl, hI0⟩
end Mine
end
-- Pre2
section
open PySem PySem.W PyProof.Rows PySem.Calls
set_option maxRecDepth 100000
namespace Mine
theorem Back.news {news rest news' : Ledg} {h h' h₀ : Heap} {L : Addr} (N : News h₀ L h (news ++ rest)) (N' : News h₀ L h' news') (K : Back news h h' news') (hdis : ∀ p ∈ rest, p.1 ∉ news.map (·.1)) : News h₀ L h' (news' ++ rest) := fun p hp => by
  rcases List.mem_append.mp hp with hp | hp
  · exact N' p hp
  · have z := N p (List.mem_append_right _ hp)
    exact ⟨K.keep _ _ z.1 (hdis p hp), z.2⟩
theorem Back.apart {news rest news' : Ledg} {h h' h₀ : Heap} {L : Addr} (N : News h₀ L h (news ++ rest)) (K : Back news h h' news') (hdis : ∀ p ∈ rest, p.1 ∉ news.map (·.1)) : ∀ p ∈ news', ∀ q ∈ rest, p.1 ≠ q.1 := fun p hp q hq e => by
  rcases K.new p hp with k | k
  · have z := (N q (List.mem_append_right _ hq)).1
    rw [← e, k] at z; cases z
  · exact hdis q hq (e ▸ k)
theorem Back.frame {news rest news' : Ledg} {h h' h₀ : Heap} {L : Addr} (N : News h₀ L h (news ++ rest)) (K : Back news h h' news') : Back (news ++ rest) h h' (news' ++ rest) where
  keep := fun b o e n => K.keep b o e (fun q => n (by rw [List.map_append]; exact List.mem_append_left _ q))
  new := fun p hp => by
    rw [List.map_append]
    rcases List.mem_append.mp hp with hp | hp
    · exact (K.new p hp).imp id fun q => List.mem_append_left _ q
    · exact .inr (List.mem_append_right _ (List.mem_map_of_mem hp))
/-- a call told of less than the caller knows -/
theorem CallOk.frame {w : World} {mean : ExcName → Option Value} {mg mb : Str → Option Value} {news : Ledg} {D : Nat} {f : Addr} {args : List Value} {Post : Value → Ledg → Prop} (C : CallOk w mean mg mb news D f args Post) (rest : Ledg)
    (hdis : ∀ h₀ L h, News h₀ L h (news ++ rest) → ∀ p ∈ rest, p.1 ∉ news.map (·.1)) :
    CallOk w mean mg mb (news ++ rest) D f args (fun r nw => ∃ news', nw = news' ++ rest ∧ (∀ p ∈ news', ∀ q ∈ rest, p.1 ≠ q.1) ∧ Post r news') := by
  intro dp un gd cn cs a' ccd cl outer A₀ base h₀ L m s Q E B F X N T hk hdp hun hret
  have hd := hdis _ _ _ N
  refine C.use B F X (fun p hp => N p (List.mem_append_left _ hp)) T hk hdp hun fun r news' h' tk' F' N' K' hp => ?_
  exact hret r (news' ++ rest) h' tk' F' (K'.news N N' hd) (K'.frame N) ⟨news', rfl, K'.apart N hd, hp⟩
/-- the same facts in another order -/
theorem CallOk.perm {w : World} {mean : ExcName → Option Value} {mg mb : Str → Option Value} {news : Ledg} {D : Nat} {f : Addr} {args : List Value} {Post : Value → Ledg → Prop} (C : CallOk w mean mg mb news D f args Post) {news₁ : Ledg}
    (h1 : ∀ p, p ∈ news ↔ p ∈ news₁) : CallOk w mean mg mb news₁ D f args Post := by
  intro dp un gd cn cs a' ccd cl outer A₀ base h₀ L m s Q E B F X N T hk hdp hun hret
  refine C.use B F X (fun p hp => N p ((h1 p).mp hp)) T hk hdp hun fun r news' h' tk' F' N' K' hp => ?_
  have hm : ∀ b, b ∈ news.map (·.1) ↔ b ∈ news₁.map (·.1) := fun b => by
    simp only [List.mem_map]
    exact ⟨fun ⟨p, a, e⟩ => ⟨p, (h1 p).mp a, e⟩, fun ⟨p, a, e⟩ => ⟨p, (h1 p).mpr a, e⟩⟩
  exact hret r news' h' tk' F' N' ⟨fun b o e n => K'.keep b o e (fun q => n ((hm b).mp q)), fun p hp => (K'.new p hp).imp id fun q => (hm _).mp q⟩ hp
theorem CallOk.mono {w : World} {mean : ExcName → Option Value} {mg mb : Str → Option Value} {news : Ledg} {D D' : Nat} {f : Addr} {args : List Value} {Post Post' : Value → Ledg → Prop} (C : CallOk w mean mg mb news D f args Post) (hD : D ≤ D') (hP : ∀ r n, Post r n → Post' r n) :
    CallOk w mean mg mb news D' f args Post' := by
  intro dp un gd cn cs a' ccd cl outer A₀ base h₀ L m s Q E B F X N T hk hdp hun hret
  exact C.use B F X N T hk (by omega) (by omega) fun r news' h' tk' F' N' K' hp => hret r news' h' tk' F' N' K' (hP _ _ hp)
theorem sameObj {h₀ h : Heap} {L : Addr} {news : Ledg} (N : News h₀ L h news) {p q : Addr × Obj} (hp : p ∈ news) (hq : q ∈ news) (e : p.1 = q.1) : p.2 = q.2 := by
  have a := (N p hp).1
  have b := (N q hq).1
  rw [e, b] at a
  exact (Option.some.inj a).symm
/-- the two tables of code objects -/
structure Tabs (t : Ledg) : Prop where
  is : ∃ p1 e1 p2 e2, Tab 35 4 qI2D p1 e1 ∧ Tab 50 4 qD2I p2 e2 ∧ t = ((37, tabObj p1) :: e1) ++ ((44, tabObj p2) :: e2)
theorem Tab.not1 {line col : Nat} {q : Str} {ps : Array Value} {ex : Ledg} (h : Tab line col q ps ex) (x : Str) (t : Tok) : ps[1]? ≠ Option.some (.str x t) := by
  cases h with
  | none => simp
  | some _ _ => simp [rawInt]
theorem Tab.mem {line col : Nat} {q : Str} {ps : Array Value} {ex : Ledg} (h : Tab line col q ps ex) {p : Addr × Obj} (hp : p ∈ ex) : ∃ vs t, p.2.data = .fields vs ∧ vs[1]? = Option.some (.str q t) := by
  cases h with
  | none => cases hp
  | some a b => rw [List.mem_singleton.mp hp]; exact ⟨_, _, a, b⟩
theorem qs_apart : qI2D ≠ qD2I := by decide +kernel
theorem tabs_apart {p1 p2 : Array Value} {e1 e2 : Ledg} (t1 : Tab 35 4 qI2D p1 e1) (t2 : Tab 50 4 qD2I p2 e2) {h₀ h : Heap} {L : Addr} (N : News h₀ L h (((37, tabObj p1) :: e1) ++ ((44, tabObj p2) :: e2))) :
    ∀ p ∈ (44, tabObj p2) :: e2, p.1 ∉ ((37, tabObj p1) :: e1).map (·.1) := by
  intro p hp hm
  obtain ⟨q, hq, e⟩ := List.mem_map.mp hm
  have so := sameObj N (List.mem_append_left _ hq) (List.mem_append_right _ hp) e
  rcases List.mem_cons.mp hp with rfl | hp
  · rcases List.mem_cons.mp hq with rfl | hq
    · exact absurd (show (37 : Nat) = 44 from e) (by decide)
    · obtain ⟨vs, t, a, b⟩ := t1.mem hq
      rw [so] at a
      cases a
      exact t2.not1 _ _ b
  · obtain ⟨vs, t, a, b⟩ := t2.mem hp
    rcases List.mem_cons.mp hq with rfl | hq
    · rw [← so] at a
      cases a
      exact t1.not1 _ _ b
    · obtain ⟨vs', t', a', b'⟩ := t1.mem hq
      rw [so, a] at a'
      cases a'
      rw [b] at b'
      injection b' with b'
      injection b' with b' _
      exact qs_apart b'.symm
end Mine
end
-- CTab
section
open PySem PySem.W PyProof.Rows PySem.Calls
set_option maxRecDepth 100000
namespace Mine
theorem list_tab_apart {h₀ h : Heap} {L l P : Addr} {items ps : Array Value} {n : Nat} {news : Ledg} (N : News h₀ L h news) (h1 : (l, listOf items n) ∈ news) (h2 : (P, tabObj ps) ∈ news) : l ≠ P := fun e => by
  have := sameObj N h1 h2 e
  cases this
theorem list_code_apart {h₀ h : Heap} {L l : Addr} {items : Array Value} {n : Nat} {news : Ledg} (N : News h₀ L h news) (h1 : (l, listOf items n) ∈ news) {p : Addr × Obj} (h2 : p ∈ news) {vs : Array Value} (hd : p.2.data = .fields vs) : l ≠ p.1 := fun e => by
  have := sameObj N h1 h2 e
  rw [← this] at hd
  cases hd
theorem i2d_t (w : World) (mean : ExcName → Option Value) (mg mb : Str → Option Value) (a n : Int) (ta tn : Tok) {t : Ledg} (ht : Tabs t) (d : Nat) (hn : 0 < n) (hn2 : n < 200) (ha : 0 ≤ a) (hd : ((((Builtin.Int.intBits a) : Nat) : Int) + n - 1).fdiv n = d) (hd0 : 0 < a → 0 < d) (hd1 : a = 0 → d = 0) (hd2 : d < 10) (hax : a < 2 ^ 3000) :
    CallOk w mean mg mb t 20 42 [.int a ta, .int n tn] (fun r nw => ∃ t' D vs nn, Tabs t' ∧ nw = (D, listOf vs.toArray nn) :: t' ∧ r = .ref D ∧ IntsAre vs (digs (2 ^ n.toNat) d a)) := by
  refine hideG ?_; intro HP back; obtain ⟨p1, e1, p2, e2, t1, t2, rfl⟩ := ht.is; refine back ?_; clear back HP
  have C : CallOk w mean mg mb ((37, tabObj p1) :: e1) 20 42 [.int a ta, .int n tn] (fun r news' => ∃ ps' ex' D vs nn, Tab 35 4 qI2D ps' ex' ∧ news' = (D, listOf vs.toArray nn) :: (37, tabObj ps') :: ex' ∧ r = .ref D ∧ IntsAre vs (digs (2 ^ n.toNat) d a)) := by
    by_cases h0 : a = 0
    · have z := hd1 h0
      refine (i2d_zero w mean mg mb a n ta tn t1 d hn hn2 h0 hd z).mono (Nat.le_refl _) ?_
      intro r nw hzz
      refine hideG ?_; intro HP back; obtain ⟨ps', ex', D, vs, nn, q1, q2, q3, q4⟩ := hzz; refine back ?_; clear back HP
      exact ⟨ps', ex', D, vs, nn, q1, q2, q3, by rw [z, digs]; exact q4⟩
    · exact i2d w mean mg mb a n ta tn t1 d hn hn2 (by omega) hd (hd0 (by omega)) hd2 hax
  refine (C.frame ((44, tabObj p2) :: e2) (fun _ _ _ N => tabs_apart t1 t2 N)).mono (Nat.le_refl _) ?_
  intro r nw hzz
  refine hideG ?_; intro HP back; obtain ⟨news', rfl, _, ps', ex', D, vs, nn, q1, rfl, q3, q4⟩ := hzz; refine back ?_; clear back HP
  exact ⟨_, D, vs, nn, ⟨_, _, _, _, q1, t2, rfl⟩, rfl, q3, q4⟩
theorem d2i_t (w : World) (mean : ExcName → Option Value) (mg mb : Str → Option Value) (l : Addr) (vs : List Value) (ns : List Int) (nn : Nat) (n : Int) (tn : Tok) {t : Ledg} (ht : Tabs t) (hn : 0 < n) (hn2 : n < 200) (hI : IntsAre vs ns) (hl2 : ns.length < 10) (hB : ∀ d ∈ ns, 0 ≤ d ∧ d < 2 ^ 1000) :
    CallOk w mean mg mb ((l, listOf vs.toArray nn) :: t) 20 49 [.ref l, .int n tn] (fun r nw => ∃ t', Tabs t' ∧ nw = (l, listOf vs.toArray nn) :: t' ∧ ∃ t, r = .int (unD (2 ^ n.toNat) ns) t) := by
  refine hideG ?_; intro HP back; obtain ⟨p1, e1, p2, e2, t1, t2, rfl⟩ := ht.is; refine back ?_; clear back HP
  intro dp un gd cn cs a' ccd cl outer A₀ base h₀ L m s Q E B F X N T hk hdp hun hret
  have h44 : l ≠ 44 := list_tab_apart N (.head _) (.tail _ (List.mem_append_right _ (.head _)))
  have C := d2i_any w mean mg mb l vs ns nn n tn t2 hn hn2 hI hl2 h44 hB
  have hp : ∀ p, p ∈ ((l, listOf vs.toArray nn) :: (44, tabObj p2) :: e2) ++ ((37, tabObj p1) :: e1) ↔ p ∈ (l, listOf vs.toArray nn) :: (((37, tabObj p1) :: e1) ++ ((44, tabObj p2) :: e2)) := fun p => by
    simp only [List.mem_cons, List.mem_append]
    constructor
    · rintro ((h | h | h) | h | h) <;> simp [h]
    · rintro (h | (h | h) | h | h) <;> simp [h]
  have D := (C.frame ((37, tabObj p1) :: e1) ?_).perm hp
  · refine D.use B F X N T hk hdp hun ?_
    intro r nw h' tk' F' N' K' hzz
    refine hideG ?_; intro HP back; obtain ⟨news', rfl, _, ps', ex', q1, rfl, q3⟩ := hzz; refine back ?_; clear back HP
    refine hret r ((l, listOf vs.toArray nn) :: (((37, tabObj p1) :: e1) ++ ((44, tabObj ps') :: ex'))) h' tk' F' (newsSub N' fun p hp => ?_) ⟨K'.keep, fun p hp => K'.new p ?_⟩ ⟨_, ⟨_, _, _, _, t1, q1, rfl⟩, rfl, q3⟩
    all_goals
      simp only [List.mem_cons, List.mem_append] at hp ⊢
      rcases hp with h | (h | h) | h | h <;> simp [h]
  · intro h₀ L h N p hp hm
    have N' : News h₀ L h (((37, tabObj p1) :: e1) ++ ((44, tabObj p2) :: e2)) := newsSub N fun q hq => by
      simp only [List.mem_cons, List.mem_append] at hq ⊢
      rcases hq with (h | h) | h | h <;> simp [h]
    have ap := tabs_apart t1 t2 N'
    obtain ⟨q, hq, e⟩ := List.mem_map.mp hm
    rcases List.mem_cons.mp hq with rfl | hq
    · rcases List.mem_cons.mp hp with rfl | hp
      · exact list_tab_apart N (.head _) (List.mem_append_right _ (.head _)) e
      · refine hideG ?_; intro HP back; obtain ⟨vs', t', a, _⟩ := t1.mem hp; refine back ?_; clear back HP
        exact list_code_apart N (.head _) (List.mem_append_right _ (.tail _ hp)) a e
    · exact ap q hq (e ▸ List.mem_map_of_mem hp)
end Mine
end
-- CompI
section
open PySem PySem.W PyProof.Rows PySem.Calls
open PyProof.Rows.LCg PyProof.Rows.LCp
set_option maxRecDepth 100000
namespace Mine
section
variable {prog : Program} {w : World} {A : Around} {h₀ : Heap} {L : Addr} {m : Str → Option Value} {env : Env} {elt : Expr} {x x₂ : Str} {scope : Scope} {cl : List (Str × Addr)} {s : Shared} {S : Ledg → Prop} {P : Nat → Value → Prop} {Fin : List Value → Ledg → Prop}
theorem CompEnd.mono {s₁ s₂ : Shared} {I C D : Addr} {oI oC oD : Obj} {r1 r2 : Value → Ledg → Prop} {y : Value} (h : CompEnd h₀ L m s₁ I oI C oC D oD S r1 y s₂) (k : ∀ n, r1 y n → r2 y n) : CompEnd h₀ L m s₁ I oI C oC D oD S r2 y s₂ :=
  let ⟨h', tk, nw, e, F, N, off, hS, r⟩ := h; ⟨h', tk, nw, e, F, N, off, hS, k _ r⟩
theorem comp_ind (n : Nat) (J : Nat → List Value → Ledg → Prop) (base : ∀ ys news, J n ys news → Fin ys news)
    (step : ∀ i ys news, i < n → J i ys news → ∀ v I oI C oC D m₂ h tk (E' : Value → Shared → Prop), P i v → NsObj oC m₂ → m₂ x = some v → Fr h₀ L h m → News h₀ L h ((I, oI) :: (C, oC) :: (D, lst ys) :: news) → Off3 I C D news → ((@Ne Nat I C) ∧ (@Ne Nat I D) ∧ (@Ne Nat C D)) →
      wpAny (model prog w) A (eval elt (compEnvC scope cl C env)) (CompEnd h₀ L m { s with heap := h, toks := tk } I oI C oC D (lst ys) S (fun y news' => J (i + 1) (ys ++ [y]) news')) E' { s with heap := h, toks := tk }) :
    ∀ k i ys news, i + k = n → J i ys news → CompRest prog w A h₀ L m env elt x scope cl s S P Fin k i ys news
  | 0, i, ys, news, e, h => base ys news (by rw [Nat.add_zero] at e; exact e ▸ h)
  | k + 1, i, ys, news, e, h => fun v I oI C oC D m₂ h' tk E' hP hC hx F N off ne => wpAny_mono (step i ys news (by omega) h v I oI C oC D m₂ h' tk E' hP hC hx F N off ne)
      (fun y s₂ q => CompEnd.mono q fun nw r => comp_ind n J base step k (i + 1) _ nw (by omega) r) fun _ _ e => e
theorem compP_ind (n : Nat) (J : Nat → List Value → Ledg → Prop) (base : ∀ ys news, J n ys news → Fin ys news)
    (step : ∀ i ys news, i < n → J i ys news → ∀ v, P i v → ∃ (t : Addr) (ot : Obj) (v₁ v₂ : Value) (nt : Nat), v = .ref t ∧ (t, ot) ∈ news ∧ ot.cls = .type "tuple" ∧ ot.data = .seq #[v₁, v₂] nt ∧
      ∀ I oI C oC D m₂ h tk (E' : Value → Shared → Prop), NsObj oC m₂ → m₂ x = some v₁ → m₂ x₂ = some v₂ → Fr h₀ L h m → News h₀ L h ((I, oI) :: (C, oC) :: (D, lst ys) :: news) → Off3 I C D news → ((@Ne Nat I C) ∧ (@Ne Nat I D) ∧ (@Ne Nat C D)) →
      wpAny (model prog w) A (eval elt (compEnvC scope cl C env)) (CompEnd h₀ L m { s with heap := h, toks := tk } I oI C oC D (lst ys) S (fun y news' => J (i + 1) (ys ++ [y]) news')) E' { s with heap := h, toks := tk }) :
    ∀ k i ys news, i + k = n → J i ys news → CompRestP prog w A h₀ L m env elt x x₂ scope cl s S P Fin k i ys news
  | 0, i, ys, news, e, h => base ys news (by rw [Nat.add_zero] at e; exact e ▸ h)
  | k + 1, i, ys, news, e, h => fun v hP => by
    obtain ⟨t, ot, v₁, v₂, nt, e1, e2, e3, e4, st⟩ := step i ys news (by omega) h v hP
    exact ⟨t, ot, v₁, v₂, nt, e1, e2, e3, e4, fun I oI C oC D m₂ h' tk E' hC hx hx2 F N off ne => wpAny_mono (st I oI C oC D m₂ h' tk E' hC hx hx2 F N off ne)
      (fun y s₂ q => CompEnd.mono q fun nw r => compP_ind n J base step k (i + 1) _ nw (by omega) r) fun _ _ e => e⟩
end
end Mine
end
-- CompS
section
open PySem PySem.W PyProof.Rows PySem.Calls
open PyProof.Rows.LCg
set_option maxRecDepth 100000
namespace Mine
section
variable {prog : Program} {w : World} {A : Around} {E : Value → Shared → Prop} {s : Shared} {h₀ : Heap} {L : Addr} {m : Str → Option Value} {env : Env}
theorem str_iter {tx : Str} {t : Tok} {Q : Value → Shared → Prop}
    (hQ : ∀ (o : Obj) (T : String), (∀ A' : Around, A'.handled = none → Walks prog w A' s.heap.objs.size [s.heap.objs.size] [s.heap.objs.size] tx.cps.size (SignAt tx) (fun i h => h.IsStrIter s.heap.objs.size T tx t i)) → (s.heap.push o).IsStrIter s.heap.objs.size T tx t 0 →
      Q (.ref s.heap.objs.size) { s with heap := s.heap.push o }) : wpAny (model prog w) A (pyIter (.str tx t)) Q E s := by
  cases ha : tx.cps.all (· < 128)
  · exact wpAny_pyIter_wide ha (hQ _ _ (fun A' hA => Walks.strWide hA _ tx t) ⟨_, Heap.get?_push_size _ rfl, rfl, rfl⟩)
  · exact wpAny_pyIter_ascii ha (hQ _ _ (fun A' hA => Walks.strAscii hA _ tx t) ⟨_, Heap.get?_push_size _ rfl, rfl, rfl⟩)
theorem Assign_ListComp_S {elt iter : Expr} {x y : Str} {px py : Pos} {scope : Scope} {cl : List (Str × Addr)} {pos spos : Pos} {Q : Flow → Shared → Prop} (hLe : env.locals = L) (_F₀ : Fr h₀ L s.heap m)
    (hsw : swapsWith (.ListComp elt [⟨.Name x px, iter, [], 0⟩] scope pos) (some (.Name y py)) spos.line env = pure true)
    (hclos : closureFor scope env = pure cl) (hcell : ∀ z ∈ scope.names, z.2 ≠ .cell) (hkind : scope.kind = .function)
    (hnames : ∀ z ∈ scope.names, z.2 = .local → scope.names.lookup z.1 = some .local) (hx : scope.names.lookup x = some .local)
    (hy : env.kindOf y = some .local) (hp : (env.scope.kind == .class || (env.scope.kind == .module && env.locals != env.globals)) = false)
    (h : wpAny (model prog w) A (eval iter env) (fun xv s₁ => ∃ tx t news, xv = .str tx t ∧ A.handled = none ∧ Fr h₀ L s₁.heap m ∧ News h₀ L s₁.heap news ∧ tx.cps.size ≤ sizeLine ∧
      ∀ g, CompRest prog w A h₀ L m env elt x scope cl { s₁ with heap := g } (fun _ => True) (SignAt tx) (FinA h₀ L m { s₁ with heap := g } y Q) tx.cps.size 0 [] news) E s)
    (hs : ∀ x, foldedSetIterable iter env x = pure x := by intro _; rfl) :
    wpAny (model prog w) A (exec (.Assign [.Name y py] (.ListComp elt [⟨.Name x px, iter, [], 0⟩] scope pos) spos) env) Q E s := by
  subst hLe
  rw [exec_Assign_Name_used _ _ _ _ hsw]
  refine wpAny_bind (wpAny_standAt (wpAny_bind ?_))
  show wpAny _ A (do let _ ← comprehension (.ListComp elt [⟨.Name x px, iter, [], 0⟩] scope pos) scope env _ (newList []) false (eval iter env) (some (assign (.Name y py) env))) _ _ s
  refine wpAny_bind (wpAny_mono (wpAny_comprehension_free (use := some (assign (.Name y py) env)) (Q := fun _ s' => Q .next s') rfl hs hclos hkind hnames
    (wpAny_mono h (fun xv s₁ h₁ => ?_) fun _ _ e => e)) (fun _ s' hq => wpAny_pure (wpAny_pure hq)) fun _ _ e => e)
  obtain ⟨tx, t, news, rfl, hh, F, N, hsz, R⟩ := h₁
  refine str_iter fun o T W hst => ?_
  have up : ∀ b o', s₁.heap.get? b = some o' → (s₁.heap.push o).get? b = some o' := fun b o' e => Heap.get?_push_of_some _ e
  refine block_U (W A hh) hsz (fun i h st => by obtain ⟨o, e, _⟩ := st; exact ⟨o, e⟩) (fun i h h' o' nw st e e' _ _ _ => by obtain ⟨o'', q, r⟩ := st; rw [e] at q; cases q; exact ⟨o', e', r⟩) hcell hkind hx hst (fun b hb => ?_)
    (F.keeps up) (N.grown up) (Nat.ne_of_lt F.ns.lt) (next_is_new F) (fun p hp => Nat.ne_of_lt (Heap.lt_size (N p hp).1)) trivial (R _) ?_
  · show b < (s₁.heap.push _).objs.size
    rw [Heap.size_push, List.mem_singleton.mp hb]
    exact Nat.lt_succ_self _
  · intro D C h' tk m' ys news' F' N' o1 hn hC₀ hD₀ hCL hDL hCD offC fin
    show wpAny _ A (assign (.Name y py) env (.ref D)) _ _ _
    refine wpAny_assign_Name (wpAny_storeName_local hy F'.ns (fun h₂ hn₂ hs₂ => ?_) hp)
    have hL₀ : h₀.get? env.locals = none := Heap.get?_none_of_le F'.above
    have F₂ : Fr h₀ env.locals h₂ (fun z => if z = y then some (.ref D) else m z) := ⟨hn₂, fun b o e => hs₂.extBut b o (fun q => by rw [q, hL₀] at e; cases e) (F'.keep b o e), F'.above⟩
    refine ⟨m', hn.sameBut hs₂ hCL, fun h'' hs'' => fin D h'' _ (F₂.change hs'' hCL hC₀) (fun p hp => ?_) o1⟩
    have z : h₂.get? p.1 = some p.2 := hs₂.extBut _ _ (N' p hp).2.1 (N' p hp).1
    refine ⟨hs''.extBut _ _ ?_ z, (N' p hp).2⟩
    rcases List.mem_cons.mp hp with rfl | hp
    · exact Ne.symm hCD
    · exact offC p hp
theorem ints_app {vs ws : List Value} {ns ms : List Int} (h : IntsAre vs ns) (k : IntsAre ws ms) : IntsAre (vs ++ ws) (ns ++ ms) := by
  induction h with
  | nil => exact k
  | cons n t _ ih => exact .cons n t ih
/-- a comprehension over a list of ints: one int an item, no heap touched -/
theorem comp_mapI {elt : Expr} {x : Str} {scope : Scope} {cl : List (Str × Addr)} {Fin : List Value → Ledg → Prop} {vs : List Value} {ns : List Int} {news : Ledg} {S : Ledg → Prop} (f : Int → Int) (hI : IntsAre vs ns) (hS : S news)
    (elt_ok : ∀ k t I oI C oC D ys m₂ h tk (E' : Value → Shared → Prop), k ∈ ns → NsObj oC m₂ → m₂ x = some (.int k t) → Fr h₀ L h m → News h₀ L h ((I, oI) :: (C, oC) :: (D, lst ys) :: news) →
      wpAny (model prog w) A (eval elt (compEnvC scope cl C env)) (fun y s' => ∃ t' tk', y = .int (f k) t' ∧ s' = { s with heap := h, toks := tk' }) E' { s with heap := h, toks := tk })
    (fin : ∀ ys, IntsAre ys (ns.map f) → Fin ys news) : CompRest prog w A h₀ L m env elt x scope cl s S (fun i v => vs.toArray[i]? = some v) Fin vs.toArray.size 0 [] news := by
  have hsz : vs.toArray.size = ns.length := by rw [List.size_toArray, hI.length]
  rw [hsz]
  refine comp_ind ns.length (fun i ys nw => nw = news ∧ IntsAre ys ((ns.take i).map f)) ?_ ?_ ns.length 0 [] news (Nat.zero_add _) ⟨rfl, .nil⟩
  · rintro ys nw ⟨rfl, hy⟩
    rw [List.take_length] at hy
    exact fin ys hy
  · rintro i ys nw hi ⟨rfl, hy⟩ v I oI C oC D m₂ h tk E' hv hC hx F N off ne
    obtain ⟨t, ht⟩ := hI.get i ns[i] (List.getElem?_eq_getElem hi)
    have hv' : vs[i]? = some v := by simpa using hv
    rw [ht] at hv'
    cases hv'
    refine wpAny_mono (elt_ok ns[i] t I oI C oC D ys m₂ h tk E' (List.getElem_mem hi) hC hx F N) (fun y s' q => ?_) fun _ _ e => e
    obtain ⟨t', tk', rfl, rfl⟩ := q
    refine CompEnd.intro F N nw (fun _ h => h) off hS ⟨rfl, ?_⟩
    rw [List.take_add_one, List.map_append, List.getElem?_eq_getElem hi]
    exact ints_app hy (.cons _ _ .nil)
/-- the same over a text's letters -/
theorem comp_strI {elt : Expr} {x : Str} {scope : Scope} {cl : List (Str × Addr)} {Fin : List Value → Ledg → Prop} {tx : Str} {news : Ledg} (f : Nat → Int)
    (elt_ok : ∀ c t I oI C oC D ys m₂ h tk (E' : Value → Shared → Prop), c ∈ tx.cps.toList → NsObj oC m₂ → m₂ x = some (.str ⟨#[c]⟩ t) → Fr h₀ L h m → News h₀ L h ((I, oI) :: (C, oC) :: (D, lst ys) :: news) →
      wpAny (model prog w) A (eval elt (compEnvC scope cl C env)) (fun y s' => ∃ t' tk', y = .int (f c) t' ∧ s' = { s with heap := h, toks := tk' }) E' { s with heap := h, toks := tk })
    (fin : ∀ ys, IntsAre ys (tx.cps.toList.map f) → Fin ys news) : CompRest prog w A h₀ L m env elt x scope cl s (fun _ => True) (SignAt tx) Fin tx.cps.size 0 [] news := by
  have hsz : tx.cps.size = tx.cps.toList.length := by rw [Array.length_toList]
  rw [hsz]
  refine comp_ind tx.cps.toList.length (fun i ys nw => nw = news ∧ IntsAre ys ((tx.cps.toList.take i).map f)) ?_ ?_ _ 0 [] news (Nat.zero_add _) ⟨rfl, .nil⟩
  · rintro ys nw ⟨rfl, hy⟩
    rw [List.take_length] at hy
    exact fin ys hy
  · rintro i ys nw hi ⟨rfl, hy⟩ v I oI C oC D m₂ h tk E' hv hC hx F N off ne
    obtain ⟨c, t, hc, rfl⟩ := hv
    have hc' : tx.cps.toList[i]? = some c := by rw [Array.getElem?_toList]; exact hc
    have hci : tx.cps.toList[i] = c := Option.some.inj ((List.getElem?_eq_getElem hi).symm.trans hc')
    refine wpAny_mono (elt_ok c t I oI C oC D ys m₂ h tk E' (hci ▸ List.getElem_mem hi) hC hx F N) (fun y s' q => ?_) fun _ _ e => e
    obtain ⟨t', tk', rfl, rfl⟩ := q
    refine CompEnd.intro F N nw (fun _ h => h) off trivial ⟨rfl, ?_⟩
    rw [List.take_add_one, List.map_append, hc']
    exact ints_app hy (.cons _ _ .nil)
end
end Mine
end
-- Num2
section
open PySem
namespace Mine
def st (B v d : Int) : Int := d + B * v
theorem foldl_st (B : Int) (xs : List Int) : xs.reverse.foldl (st B) 0 = unD B xs := by
  rw [List.foldl_reverse]
  induction xs with
  | nil => rfl
  | cons d r ih => rw [List.foldr_cons, ih, st, unD]
theorem unD_snoc (B q : Int) (qs : List Int) : unD B (qs ++ [q]).reverse = q + B * unD B qs.reverse := by
  rw [List.reverse_append, List.reverse_singleton, List.singleton_append, unD]
/-- one turn of the long division -/
theorem div_turn {B b v d : Int} (hB : 0 < B) (hb : 0 < b) (hd0 : 0 ≤ d) (hd1 : d < B) :
    ((v % b) * B + d).fdiv b + B * (v / b) = st B v d / b ∧ ((v % b) * B + d).fmod b = st B v d % b ∧ 0 ≤ ((v % b) * B + d).fdiv b ∧ ((v % b) * B + d).fdiv b < B := by
  have hr0 := Int.emod_nonneg v (Int.ne_of_gt hb)
  have hr1 := Int.emod_lt_of_pos v hb
  have e : st B v d = (v % b * B + d) + b * (B * (v / b)) := by
    have hv := Int.emod_add_mul_ediv v b
    unfold st
    have : B * v = v % b * B + b * (B * (v / b)) := by
      have h2 : B * (v % b + b * (v / b)) = B * v := by rw [hv]
      rw [Int.mul_add] at h2
      rw [← h2, Int.mul_comm B (v % b), ← Int.mul_assoc B b, Int.mul_comm B b, Int.mul_assoc]
    omega
  rw [Int.fdiv_eq_ediv_of_nonneg _ (Int.le_of_lt hb), Int.fmod_eq_emod_of_nonneg _ (Int.le_of_lt hb), e]
  have hx0 : 0 ≤ v % b * B := Int.mul_nonneg hr0 (Int.le_of_lt hB)
  have hx1 : v % b * B ≤ (b - 1) * B := Int.mul_le_mul_of_nonneg_right (by omega) (Int.le_of_lt hB)
  refine ⟨?_, ?_, Int.ediv_nonneg (by omega) (Int.le_of_lt hb), Int.ediv_lt_of_lt_mul hb ?_⟩
  · rw [Int.add_mul_ediv_left _ _ (Int.ne_of_gt hb)]
  · rw [Int.add_mul_emod_self_left]
  · rw [Int.sub_mul, Int.one_mul] at hx1
    rw [Int.mul_comm B b]; omega
theorem div_bits {n : Nat} {b R d : Int} (hn : n < 200) (hb0 : 0 < b) (hb : b ≤ 2 ^ n) (hR0 : 0 ≤ R) (hR : R < b) (hd0 : 0 ≤ d) (hd : d < 2 ^ n) : ((Builtin.Int.intBits (R * 2 ^ n + d) : Nat) : Int) - (n : Int) ≤ 4000 := by
  have hp : (0 : Int) < 2 ^ n := Int.pow_pos (by decide)
  have h1 : R * 2 ^ n ≤ (2 ^ n - 1) * 2 ^ n := Int.mul_le_mul_of_nonneg_right (by omega) (Int.le_of_lt hp)
  have h0 : 0 ≤ R * 2 ^ n := Int.mul_nonneg hR0 (Int.le_of_lt hp)
  rw [Int.sub_mul, Int.one_mul] at h1
  have h2 : R * 2 ^ n + d < 2 ^ n * 2 ^ n := by omega
  have h3 : ((2 : Int) ^ n) * 2 ^ n = 2 ^ (n + n) := by rw [Int.pow_add]
  rw [h3] at h2
  have := bits_of_lt (k := n + n) (x := R * 2 ^ n + d) (by omega) h2
  omega
theorem lt_pow_bits {b : Int} (hb : 0 ≤ b) : b < 2 ^ Builtin.Int.intBits b := by
  have h : b.natAbs < 2 ^ Builtin.Int.intBits b := PySem.intBits_le_iff.mp (Nat.le_refl _)
  have e : ((2 : Int) ^ Builtin.Int.intBits b) = ((2 ^ Builtin.Int.intBits b : Nat) : Int) := by rw [Int.natCast_pow]; rfl
  rw [e]; omega
theorem log2_small {b : Int} {k : Nat} (hk : Builtin.Int.intBits b ≤ k) (hk2 : k < 9000) (hb : b ≠ 0) : b.natAbs.log2 < 9000 := by
  have h : b.natAbs < 2 ^ k := PySem.intBits_le_iff.mp hk
  have h2 : b.natAbs.log2 < k := (Nat.log2_lt (by omega)).mpr h
  omega
end Mine
end
-- CDP
section
open PySem PySem.W PyProof.Rows PySem.Calls
set_option maxRecDepth 100000
set_option maxHeartbeats 8000000
namespace Mine
theorem off4 : True := by
  w_top off
  k_with_none
  exact trivial
theorem fill6 : (Challenge.rw_re0104_01, hd.heap_1) = (Challenge.rw_re0104_01, hd.heap_1) := by
  k_fill
  rfl
theorem lineCDP1 : True := by
  k_with "binaryOp LShift int int" => (refine lshift_int (by assumption) (by assumption) ?_)
  exact trivial
theorem allNe_of {d : Addr} {l : Ledg} (h : AllLt d l) : ∀ p ∈ l, p.1 ≠ d := fun p hp => Nat.ne_of_lt (ktn_ltOf h p hp)
local macro_rules | `(tactic| k_all) => `(tactic| exact allNe_of (by assumption))
theorem ints_append {vs ws : List Value} {ns ms : List Int} (h : IntsAre vs ns) (k : IntsAre ws ms) : IntsAre (vs ++ ws) (ns ++ ms) := by
  induction h with
  | nil => exact k
  | cons n t _ ih => exact .cons n t ih
theorem ints_reverse {vs : List Value} {ns : List Int} (h : IntsAre vs ns) : IntsAre vs.reverse ns.reverse := by
  induction h with
  | nil => exact .nil
  | cons n t _ ih => rw [List.reverse_cons, List.reverse_cons]; exact ints_append ih (.cons n t .nil)
theorem heads2 {h₀ h : Heap} {L D D2 : Addr} {o o2 : Obj} {rest : Ledg} (_ : News h₀ L h ((D, o) :: (D2, o2) :: rest)) : ∃ D' D2', D' = D ∧ D2' = D2 := ⟨D, D2, rfl, rfl⟩
theorem offI_lt {I : Addr} {it : Obj} : ∀ {l : Ledg}, AllLt I l → OffI I it l
  | [], _ => trivial
  | _ :: _, h => ⟨.inl (Nat.ne_of_lt h.1), offI_lt h.2⟩
theorem canon4 {m : Str → Option Value} {x1 x2 x3 x4 : Str} {v1 v2 v3 v4 : Value} (h1 : m x1 = some v1) (h2 : m x2 = some v2) (h3 : m x3 = some v3) (h4 : m x4 = some v4) :
    m = fun y => if y = x1 then some v1 else if y = x2 then some v2 else if y = x3 then some v3 else if y = x4 then some v4 else m y := by
  funext y
  split
  · rename_i h; rw [h]; exact h1
  · split
    · rename_i h; rw [h]; exact h2
    · split
      · rename_i h; rw [h]; exact h3
      · split
        · rename_i h; rw [h]; exact h4
        · rfl
section
variable {prog : Program} {w : World} {A : Around} {E : Value → Shared → Prop} {s : Shared} {env : Env} {h₀ : Heap} {x : Str} {body : List Stmt} {Q : Flow → Shared → Prop} {I : Addr} {lp : Addr × Obj}
theorem rev_ind (P : List Value → (Str → Option Value) → Ledg → Prop)
    (base : ∀ m news, P [] m news → ∀ h tk, Fr h₀ env.locals h m → News h₀ env.locals h news → Q .next { s with heap := h, toks := tk })
    (step : ∀ v r m news, P (v :: r) m news → ∀ (it : Obj) h tk, it.cls = .type "list_reverseiterator" → Fr h₀ env.locals h (fun y => if y = x then some v else m y) → News h₀ env.locals h ((I, it) :: news) →
      wpAny (model prog w) A (execs body env) (UnrPost h₀ env.locals { s with heap := h, toks := tk } I it (fun m' n' => lp ∈ n' ∧ P r m' n') Q) E { s with heap := h, toks := tk }) :
    ∀ r m news, P r m news → RevRest prog w A E h₀ env x body Q s I lp r m news
  | [], m, news, h => base m news h
  | v :: r, m, news, h => fun it h1 tk hit F N => wpAny_mono (step v r m news h it h1 tk hit F N) (fun f s₂ p => by
      have go : UnrEnd h₀ env.locals { s with heap := h1, toks := tk } I it (fun m' n' => lp ∈ n' ∧ P r m' n') s₂ → UnrEnd h₀ env.locals { s with heap := h1, toks := tk } I it (fun m' n' => lp ∈ n' ∧ RevRest prog w A E h₀ env x body Q s I lp r m' n') s₂ := by
        intro  hzz
        refine hideG ?_; intro HP back; obtain ⟨h', tk', m', n', e, F', N', off, a, b⟩ := hzz; refine back ?_; clear back HP
        exact ⟨h', tk', m', n', e, F', N', off, a, rev_ind P base step r m' n' b⟩
      cases f with
      | ret v => exact p
      | brk => exact p
      | next => exact go p
      | cont => exact go p) fun _ _ e => e
end
theorem digs_fit {a b : Int} {n d : Nat} (hn0 : 0 < n) (ha : 0 ≤ a) (hn : Builtin.Int.intBits b = n) (hd : ((((Builtin.Int.intBits a) : Nat) : Int) + (n : Nat) - 1).fdiv (n : Nat) = (d : Nat)) : a < (2 ^ n) ^ d := by
  have h1 := lt_pow_bits ha
  have h2 : Builtin.Int.intBits a ≤ n * d := by
    rw [Int.fdiv_eq_ediv_of_nonneg _ (Int.natCast_nonneg _)] at hd
    have h3 := Int.lt_mul_ediv_self_add (x := (((Builtin.Int.intBits a) : Nat) : Int) + (n : Nat) - 1) (k := ((n : Nat) : Int)) (by omega)
    rw [hd] at h3
    have h4 : ((n * d : Nat) : Int) = (n : Int) * (d : Int) := Int.natCast_mul _ _
    omega
  rw [← Int.pow_mul]
  exact Int.lt_of_lt_of_le h1 (pow_le_pow2 h2)
theorem divpos (w : World) (mean : ExcName → Option Value) (mg mb : Str → Option Value) (a b : Int) (ta tb : Tok) {t : Ledg} (ht : Tabs t) (d : Nat) (hb : 0 < b) (hn0 : 0 < Builtin.Int.intBits b) (hn2 : Builtin.Int.intBits b < 200) (ha : 0 ≤ a) (hd : ((((Builtin.Int.intBits a) : Nat) : Int) + (Builtin.Int.intBits b : Nat) - 1).fdiv (Builtin.Int.intBits b : Nat) = d) (hd0 : 0 < a → 0 < d) (hd1 : a = 0 → d = 0) (hd2 : d < 10) (hax : a < 2 ^ 3000) :
    CallOk w mean mg mb t 25 56 [.int a ta, .int b tb] (fun r nw => ∃ t' r' t1 t2, Tabs t' ∧ nw = (r', tup2 (.int (a / b) t1) (.int (a % b) t2)) :: t' ∧ r = .ref r') := by
  unfold CallOk
  intro dp un gd cn cs a' ccd cl outer A₀ base h₀ L m s Q E B F X N T hk hdp hun hret
  refine wpAny_call ?_
  (refine' enter_K ?k1 ?k2 ?k3 ?k4 ?k5 ?kA ?kF ?kK ?k6 ?k7 ?k8 ?k9 ?kB ?_ ?c2 ?c3 ?c4 ?c5; (case kA => exact rfl); (case kF => exact rfl); (case kK => assumption); (case k1 => k_asm); (case k2 => k_asm); (case k3 => k_asm); (case k4 => k_asm); (case k5 => k_asm); (case k6 => k_is); (case k7 => k_is); (case k8 => first | exact room0 hdp | ktr_room); (case k9 => exact BindsTo.of_eq rfl); (case c5 => decide); (case kB => exact locs rfl); (case c2 => exact rfl); (case c3 => exact rfl); (case c4 => exact rfl); k_whole; intro g L' h' G FG F' N' B' X' T' l1; (try dsimp only); (try k_fold))
  k_steps
  with_reducible rename Fr _ _ _ _ => F2
  with_reducible rename News _ _ _ _ => N2
  refine CallOk.use (i2d_t w mean mg mb a _ _ _ ht d (by omega) (by omega) ha hd hd0 hd1 hd2 hax) B' F2 X' N2 T' rfl (by first | exact room1 hdp rfl | ktr_room) (by first | exact units1 hun rfl | ktr_units) ?_
  intro r1 nw1 h1' tk1 F1 N1 K1 hr1
  refine hideG ?_; intro HP back; obtain ⟨t', D, vs, nn, ht', rfl, rfl, hI⟩ := hr1; refine back ?_; clear back HP
  clear F2 N2
  dsimp only
  k_steps
  with_reducible rename Fr _ _ _ _ => F5
  with_reducible rename News _ _ _ _ => N5
  refine hideG ?_; intro HP back; obtain ⟨I, l, hI1, hI2⟩ := heads2 N5; refine back ?_; clear back HP
  subst hI1 hI2
  rename D < l ∧ AllLt l t' => lq
  rename l < I ∧ D < I ∧ AllLt I t' => lI
  obtain ⟨lI1, lI2, lI3⟩ := lI
  obtain ⟨lq1, lq2⟩ := lq
  generalize hn : Builtin.Int.intBits b = n at *
  have hbn : b < 2 ^ n := by rw [← hn]; exact lt_pow_bits (Int.le_of_lt hb)
  rw [Int.toNat_natCast] at hI
  refine iter_revUnr rfl F5 N5 ⟨.inl (Nat.ne_of_lt lI1), .inl (Nat.ne_of_lt lI2), offI_lt lI3⟩ (.tail _ (.head _)) rfl rfl ?_
  refine rev_ind (P := fun r m news => ∃ ks qs qn R v k tr tn, IntsAre r ks ∧ IntsAre qs qn ∧ (∀ x ∈ ks, 0 ≤ x ∧ x < 2 ^ n) ∧ (∀ x ∈ qn, 0 ≤ x ∧ x < 2 ^ n) ∧ qn.length + ks.length = d ∧ ks.foldl (st (2 ^ n)) v = a ∧ R = v % b ∧ unD (2 ^ n) qn.reverse = v / b ∧
      m (Str.ofString "b") = some (.int b tb) ∧ m (Str.ofString "n") = some (.int n tn) ∧ m (Str.ofString "q_digits") = some (.ref l) ∧ m (Str.ofString "r") = some (.int R tr) ∧ news = (l, listOf qs.toArray k) :: (D, listOf vs.toArray nn) :: t') ?_ ?_ _ _ _ ?_
  · intro m1 news1 hzz h6 tk6 F6 N6
    refine hideG ?_; intro HP back; obtain ⟨ks, qs, qn, R, v, k, tr, tn, hks, hqs, hkb, hqb, hlen, hfold, hR, hq, m1b, m1n, m1q, m1r, rfl⟩ := hzz; refine back ?_; clear back HP
    cases hks
    rw [canon4 m1b m1n m1q m1r] at F6
    dsimp only
    k_steps
    with_reducible rename Fr _ _ _ _ => F7
    with_reducible rename News _ _ _ _ => N7
    dsimp only
    (k_dflt (refine' kl_reverse ?zF ?zN ?ze ?zU ?zz ?_; (case zF => exact F7); (case zN => exact N7); (case ze => exact rfl); (case zU => k_upd); (case zz => (rw [List.toList_toArray, hqs.length]; rw [sizeLine_eq]; omega))))
    intro h8 F8 N8
    have hrev : IntsAre qs.toArray.toList.reverse qn.reverse := by rw [List.toList_toArray]; exact ints_reverse hqs
    clear F7 N7
    dsimp only
    k_steps
    with_reducible rename Fr _ _ _ _ => F9
    with_reducible rename News _ _ _ _ => N9
    have hva : v = a := hfold
    subst hva
    have hql : qn.reverse.length < 10 := by rw [List.length_reverse]; simp only [List.length_nil] at hlen; omega
    have hqB : ∀ x ∈ qn.reverse, 0 ≤ x ∧ x < 2 ^ 1000 := fun x hx => by
      have z := hqb x (List.mem_reverse.mp hx)
      have z2 := pow_le_pow2 (a := n) (b := 1000) (by omega)
      generalize (2 : Int) ^ 1000 = P at *
      omega
    refine CallOk.use (d2i_t w mean mg mb l _ qn.reverse k n tn ht' (by omega) (by omega) hrev hql hqB) B' F9 X' (newsSub N9 (fun p hp => by simp only [List.mem_cons] at hp ⊢; rcases hp with h | h <;> simp [h])) T' rfl (by first | exact room1 hdp rfl | ktr_room) (by first | exact units1 hun rfl | ktr_units) ?_
    intro r1 nw1 h1' tk1 F1 N1 K1 hr1
    refine hideG ?_; intro HP back; obtain ⟨t2, ht2, rfl, tq, rfl⟩ := hr1; refine back ?_; clear back HP
    rw [Int.toNat_natCast, hq]
    clear F9 N9
    dsimp only
    k_steps
    with_reducible rename Fr h₀ _ _ _ => Fe
    with_reducible rename News h₀ _ _ _ => Ne
    with_reducible rename Fr g _ _ _ => Fg
    with_reducible rename News g _ _ _ => Ng
    have sub : ∀ (o : Addr × Obj) (x : Addr × Obj), ∀ p ∈ o :: t2, p ∈ o :: x :: t2 := fun o x p hp => by simp only [List.mem_cons] at hp ⊢; rcases hp with h | h <;> simp [h]
    rw [hR] at Ne Ng
    exact hret _ _ _ _ Fe (newsSub Ne (sub _ _)) (G.back Fg (newsSub Ng (sub _ _))) ⟨t2, _, _, _, ht2, rfl, rfl⟩
  · intro v0 r0 m1 news1 hzz it h6 tk6 hit F6 N6
    refine hideG ?_; intro HP back; obtain ⟨ks, qs, qn, R, v, k, tr, tn, hks, hqs, hkb, hqb, hlen, hfold, hR, hq, m1b, m1n, m1q, m1r, rfl⟩ := hzz; refine back ?_; clear back HP
    cases hks with
    | @cons dg tdg _ ks' hks' =>
    rw [canon4 m1b m1n m1q m1r] at F6
    have hR0 : 0 ≤ R := by rw [hR]; exact Int.emod_nonneg _ (Int.ne_of_gt hb)
    have hR1 : R < b := by rw [hR]; exact Int.emod_lt_of_pos _ hb
    have hdg := hkb dg (.head _)
    have n0 : (0 : Int) ≤ (n : Int) := Int.natCast_nonneg _
    have bR : Builtin.Int.intBits R ≤ n := bits_of_lt hR0 (by omega)
    have n1 : ((Builtin.Int.intBits R : Nat) : Int) + (n : Int) ≤ 2 ^ 27 := by omega
    k_steps
    rw [Int.toNat_natCast]
    with_reducible rename Fr _ _ _ _ => F7
    with_reducible rename News _ _ _ _ => N7
    refine CallOk.use ((div2n1n_ok w mean mg mb (R * 2 ^ n + dg) b n _ _ _ (by omega) (log2_small (k := n) (by omega) (by omega) (by omega)) (div_bits hn2 hb (Int.le_of_lt hbn) hR0 hR1 hdg.1 hdg.2)).frame _ (fun _ _ _ _ _ _ hh => nomatch hh)) B' F7 X' N7 T' rfl (by first | exact room1 hdp rfl | ktr_room) (by first | exact units1 hun rfl | ktr_units) ?_
    intro r1 nw1 h1' tk1 F1 N1 K1 hr1
    refine hideG ?_; intro HP back; obtain ⟨nw2, rfl, hap, r', t1, t2, rfl, rfl⟩ := hr1; refine back ?_; clear back HP
    have ap1 : r' ≠ l := hap _ (.head _) (l, _) (.tail _ (.head _))
    have ap2 : r' ≠ I := hap _ (.head _) (I, _) (.head _)
    simp only [List.cons_append, List.nil_append] at N1
    clear F7 N7
    dsimp only
    k_steps
    with_reducible rename Fr _ _ _ _ => Fz
    with_reducible rename News _ _ _ _ => Nz
    try simp only [List.push_toArray] at Nz
    have tn := div_turn (B := 2 ^ n) (v := v) (Int.pow_pos (by decide)) hb hdg.1 hdg.2
    rw [← hR] at tn
    refine UnrEnd.intro Fz Nz ((l, listOf (qs ++ [Value.int ((R * 2 ^ n + dg).fdiv b) t1]).toArray (k + 1)) :: (D, listOf vs.toArray nn) :: t') ?_ ?_ ⟨.tail _ (.head _), ks', _, qn ++ [(R * 2 ^ n + dg).fdiv b], _, st (2 ^ n) v dg, k + 1, _, _, hks', ints_append hqs (.cons _ _ .nil), fun x hx => hkb x (.tail _ hx), ?_, ?_, hfold, tn.2.1, ?_, rfl, rfl, rfl, rfl, rfl⟩
    · intro p hp
      simp only [List.mem_cons] at hp ⊢
      rcases hp with h | h | h | h <;> simp [h]
    · intro p hp
      rcases List.mem_cons.mp hp with rfl | hp
      · exact Nat.ne_of_lt lI1
      · rcases List.mem_cons.mp hp with rfl | hp
        · exact Nat.ne_of_lt lI2
        · exact allNe_of lI3 p hp
    · intro x hx
      rcases List.mem_append.mp hx with h | h
      · exact hqb x h
      · rw [List.mem_singleton.mp h]; exact tn.2.2
    · rw [List.length_append]; simp only [List.length_cons, List.length_nil] at hlen ⊢; omega
    · rw [unD_snoc, hq]; exact tn.1
  · refine ⟨(digs (2 ^ n) d a).reverse, [], [], 0, 0, 0, _, _, ints_reverse hI, .nil, ?_, (fun _ h => nomatch h), ?_, ?_, ?_, ?_, rfl, rfl, rfl, rfl, rfl⟩
    · intro x hx
      by_cases ha0 : a = 0
      · rw [hd1 ha0] at hx; cases hx
      · obtain ⟨d', rfl⟩ : ∃ d', d = d' + 1 := ⟨d - 1, by have := hd0 (by omega); omega⟩
        exact digs_bound (Int.pow_pos (by decide)) d' a ha (digs_fit hn0 ha hn hd) x (List.mem_reverse.mp hx)
    · rw [List.length_reverse, digs_length, List.length_nil, Nat.zero_add]
    · rw [foldl_st]
      by_cases ha0 : a = 0
      · rw [hd1 ha0, ha0]; rfl
      · obtain ⟨d', rfl⟩ : ∃ d', d = d' + 1 := ⟨d - 1, by have := hd0 (by omega); omega⟩
        exact unD_digs _ _ _
    · rw [Int.zero_emod]
    · rw [Int.zero_ediv]; rfl
end Mine
end
-- CIDM
section
open PySem PySem.W PyProof.Rows PySem.Calls
set_option maxRecDepth 100000
set_option maxHeartbeats 8000000
namespace Mine
theorem off5 : True := by
  w_top off
  k_with_none
  exact trivial
theorem fill7 : (Challenge.rw_re0104_01, hd.heap_1) = (Challenge.rw_re0104_01, hd.heap_1) := by
  k_fill
  rfl
theorem bits_pos {b : Int} (h : b ≠ 0) : 0 < Builtin.Int.intBits b := by
  unfold Builtin.Int.intBits
  rw [if_neg (by simpa using h)]; omega
theorem neg_div {a b : Int} (_ : a < 0) (hb : 0 < b) : -((-a - 1).fdiv b) - 1 = a.fdiv b ∧ b + (-((-a - 1).fmod b) - 1) = a.fmod b := by
  rw [Int.fdiv_eq_ediv_of_nonneg _ (Int.le_of_lt hb), Int.fmod_eq_emod_of_nonneg _ (Int.le_of_lt hb), Int.fdiv_eq_ediv_of_nonneg _ (Int.le_of_lt hb), Int.fmod_eq_emod_of_nonneg _ (Int.le_of_lt hb)]
  have h1 := Int.emod_add_mul_ediv (-a - 1) b
  have h2 := Int.emod_nonneg (-a - 1) (Int.ne_of_gt hb)
  have h3 := Int.emod_lt_of_pos (-a - 1) hb
  generalize (-a - 1) % b = r at *
  generalize (-a - 1) / b = q at *
  have e : a = (b - r - 1) + b * (-q - 1) := by
    rw [Int.mul_sub, Int.mul_neg, Int.mul_one]; omega
  have e2 : a / b = -q - 1 := by
    rw [e, Int.add_mul_ediv_left _ _ (Int.ne_of_gt hb), Int.ediv_eq_zero_of_lt (by omega) (by omega)]; omega
  have e3 : a % b = b - r - 1 := by
    rw [e, Int.add_mul_emod_self_left, Int.emod_eq_of_lt (by omega) (by omega)]
  rw [e2, e3]; omega
theorem neg_mod (a b : Int) : -((-a).fmod (-b)) = a.fmod b := by
  have h1 := Int.fmod_add_mul_fdiv a b
  have h2 := Int.fmod_add_mul_fdiv (-a) (-b)
  rw [Int.neg_fdiv_neg, Int.neg_mul] at h2
  omega
theorem divpos' (w : World) (mean : ExcName → Option Value) (mg mb : Str → Option Value) (a b : Int) (ta tb : Tok) {t : Ledg} (ht : Tabs t) (hb : 0 < b) (hn2 : Builtin.Int.intBits b < 200) (ha : 0 ≤ a) (hd : Builtin.Int.intBits a ≤ 9 * Builtin.Int.intBits b) :
    CallOk w mean mg mb t 25 56 [.int a ta, .int b tb] (fun r nw => ∃ t' r' t1 t2, Tabs t' ∧ nw = (r', tup2 (.int (a / b) t1) (.int (a % b) t2)) :: t' ∧ r = .ref r') := by
  have hn0 := bits_pos (Int.ne_of_gt hb)
  have hal := lt_pow_bits ha
  refine divpos w mean mg mb a b ta tb ht ((Builtin.Int.intBits a + Builtin.Int.intBits b - 1) / Builtin.Int.intBits b) hb hn0 hn2 ha ?_ ?_ ?_ ?_ ?_
  · rw [Int.fdiv_eq_ediv_of_nonneg _ (Int.natCast_nonneg _), Int.natCast_ediv]
    congr 1
    omega
  · intro h
    have := bits_pos (Int.ne_of_gt h)
    exact Nat.div_pos (by omega) hn0
  · intro h
    subst h
    exact Nat.div_eq_of_lt (by show 0 + _ - 1 < _; omega)
  · refine Nat.div_lt_of_lt_mul ?_
    omega
  · exact Int.lt_of_lt_of_le hal (pow_le_pow2 (by omega))
theorem idm_pp (w : World) (mean : ExcName → Option Value) (mg mb : Str → Option Value) (a b : Int) (ta tb : Tok) {t : Ledg} (ht : Tabs t) (hb : 0 < b) (hn2 : Builtin.Int.intBits b < 200) (ha : 0 ≤ a) (hd : Builtin.Int.intBits a ≤ 9 * Builtin.Int.intBits b) :
    CallOk w mean mg mb t 27 63 [.int a ta, .int b tb] (fun r nw => ∃ t' r' t1 t2, Tabs t' ∧ nw = (r', tup2 (.int (a.fdiv b) t1) (.int (a.fmod b) t2)) :: t' ∧ r = .ref r') := by
  rw [Int.fdiv_eq_ediv_of_nonneg _ (Int.le_of_lt hb), Int.fmod_eq_emod_of_nonneg _ (Int.le_of_lt hb)]
  unfold CallOk
  intro dp un gd cn cs a' ccd cl outer A₀ base h₀ L m s Q E B F X N T hk hdp hun hret
  refine wpAny_call ?_
  (refine' enter_K ?k1 ?k2 ?k3 ?k4 ?k5 ?kA ?kF ?kK ?k6 ?k7 ?k8 ?k9 ?kB ?_ ?c2 ?c3 ?c4 ?c5; (case kA => exact rfl); (case kF => exact rfl); (case kK => assumption); (case k1 => k_asm); (case k2 => k_asm); (case k3 => k_asm); (case k4 => k_asm); (case k5 => k_asm); (case k6 => k_is); (case k7 => k_is); (case k8 => first | exact room0 hdp | ktr_room); (case k9 => exact BindsTo.of_eq rfl); (case c5 => decide); (case kB => exact locs rfl); (case c2 => exact rfl); (case c3 => exact rfl); (case c4 => exact rfl); k_whole; intro g L' h' G FG F' N' B' X' T' l1; (try dsimp only); (try k_fold))
  k_steps
  all_goals first | (exfalso; have hz : b = 0 := (by assumption); omega) | skip
  with_reducible rename Fr _ _ _ _ => F2
  with_reducible rename News _ _ _ _ => N2
  refine CallOk.use (divpos' w mean mg mb a b _ _ ht hb hn2 ha hd) B' F2 X' N2 T' rfl (by first | exact room1 hdp rfl | ktr_room) (by first | exact units1 hun rfl | ktr_units) ?_
  intro r1 nw1 h1' tk1 F1 N1 K1 hr1
  refine hideG ?_; intro HP back; obtain ⟨t', r', t1, t2, ht', rfl, rfl⟩ := hr1; refine back ?_; clear back HP
  clear F2 N2
  dsimp only
  k_steps
  with_reducible rename Fr h₀ _ _ _ => Fe
  with_reducible rename News h₀ _ _ _ => Ne
  exact hret _ _ _ _ Fe Ne (G.back F1 N1) ⟨t', r', t1, t2, ht', rfl, rfl⟩
theorem idm_np (w : World) (mean : ExcName → Option Value) (mg mb : Str → Option Value) (a b : Int) (ta tb : Tok) {t : Ledg} (ht : Tabs t) (hb : 0 < b) (hn2 : Builtin.Int.intBits b < 200) (ha : a < 0) (hd : Builtin.Int.intBits (-a - 1) ≤ 9 * Builtin.Int.intBits b) :
    CallOk w mean mg mb t 29 63 [.int a ta, .int b tb] (fun r nw => ∃ t' r' t1 t2, Tabs t' ∧ nw = (r', tup2 (.int (a.fdiv b) t1) (.int (a.fmod b) t2)) :: t' ∧ r = .ref r') := by
  unfold CallOk
  intro dp un gd cn cs a' ccd cl outer A₀ base h₀ L m s Q E B F X N T hk hdp hun hret
  refine wpAny_call ?_
  (refine' enter_K ?k1 ?k2 ?k3 ?k4 ?k5 ?kA ?kF ?kK ?k6 ?k7 ?k8 ?k9 ?kB ?_ ?c2 ?c3 ?c4 ?c5; (case kA => exact rfl); (case kF => exact rfl); (case kK => assumption); (case k1 => k_asm); (case k2 => k_asm); (case k3 => k_asm); (case k4 => k_asm); (case k5 => k_asm); (case k6 => k_is); (case k7 => k_is); (case k8 => first | exact room0 hdp | ktr_room); (case k9 => exact BindsTo.of_eq rfl); (case c5 => decide); (case kB => exact locs rfl); (case c2 => exact rfl); (case c3 => exact rfl); (case c4 => exact rfl); k_whole; intro g L' h' G FG F' N' B' X' T' l1; (try dsimp only); (try k_fold))
  k_steps
  all_goals first | (exfalso; have hz : b = 0 := (by assumption); omega) | skip
  with_reducible rename Fr _ _ _ _ => F2
  with_reducible rename News _ _ _ _ => N2
  have eN : Builtin.bitNot a = -a - 1 := rfl
  have eD := neg_div ha hb
  refine CallOk.use (idm_pp w mean mg mb (Builtin.bitNot a) b _ _ ht hb hn2 (by omega) (by rw [eN]; exact hd)) B' F2 X' N2 T' rfl (by first | exact room1 hdp rfl | ktr_room) (by first | exact units1 hun rfl | ktr_units) ?_
  intro r1 nw1 h1' tk1 F1 N1 K1 hr1
  refine hideG ?_; intro HP back; obtain ⟨t', r', t1, t2, ht', rfl, rfl⟩ := hr1; refine back ?_; clear back HP
  clear F2 N2
  dsimp only
  k_steps
  with_reducible rename Fr h₀ _ _ _ => Fe
  with_reducible rename News h₀ _ _ _ => Ne
  with_reducible rename Fr g _ _ _ => Fg
  with_reducible rename News g _ _ _ => Ng
  have e1 : Builtin.bitNot ((Builtin.bitNot a).fdiv b) = a.fdiv b := eD.1
  have e2 : b + Builtin.bitNot ((Builtin.bitNot a).fmod b) = a.fmod b := eD.2
  rw [e1, e2] at Ne Ng
  have sub : ∀ (o : Addr × Obj) (x : Addr × Obj), ∀ p ∈ o :: t', p ∈ o :: x :: t' := fun o x p hp => by simp only [List.mem_cons] at hp ⊢; rcases hp with h | h <;> simp [h]
  exact hret _ _ _ _ Fe (newsSub Ne (sub _ _)) (G.back Fg (newsSub Ng (sub _ _))) ⟨t', _, _, _, ht', rfl, rfl⟩
theorem idm_n (w : World) (mean : ExcName → Option Value) (mg mb : Str → Option Value) (a b : Int) (ta tb : Tok) {t : Ledg} (ht : Tabs t) (hb : b < 0) (hn2 : Builtin.Int.intBits b < 200) (hd : Builtin.Int.intBits (a - 1) ≤ 9 * Builtin.Int.intBits b) (hd' : Builtin.Int.intBits (-a) ≤ 9 * Builtin.Int.intBits b) :
    CallOk w mean mg mb t 31 63 [.int a ta, .int b tb] (fun r nw => ∃ t' r' t1 t2, Tabs t' ∧ nw = (r', tup2 (.int (a.fdiv b) t1) (.int (a.fmod b) t2)) :: t' ∧ r = .ref r') := by
  unfold CallOk
  intro dp un gd cn cs a' ccd cl outer A₀ base h₀ L m s Q E B F X N T hk hdp hun hret
  refine wpAny_call ?_
  (refine' enter_K ?k1 ?k2 ?k3 ?k4 ?k5 ?kA ?kF ?kK ?k6 ?k7 ?k8 ?k9 ?kB ?_ ?c2 ?c3 ?c4 ?c5; (case kA => exact rfl); (case kF => exact rfl); (case kK => assumption); (case k1 => k_asm); (case k2 => k_asm); (case k3 => k_asm); (case k4 => k_asm); (case k5 => k_asm); (case k6 => k_is); (case k7 => k_is); (case k8 => first | exact room0 hdp | ktr_room); (case k9 => exact BindsTo.of_eq rfl); (case c5 => decide); (case kB => exact locs rfl); (case c2 => exact rfl); (case c3 => exact rfl); (case c4 => exact rfl); k_whole; intro g L' h' G FG F' N' B' X' T' l1; (try dsimp only); (try k_fold))
  k_steps
  all_goals first | (exfalso; have hz : b = 0 := (by assumption); omega) | skip
  with_reducible rename Fr _ _ _ _ => F2
  with_reducible rename News _ _ _ _ => N2
  have eb : Builtin.Int.intBits (-b) = Builtin.Int.intBits b := by unfold Builtin.Int.intBits; simp
  have C : ∀ ta tb, CallOk w mean mg mb t 29 63 [.int (-a) ta, .int (-b) tb] (fun r nw => ∃ t' r' t1 t2, Tabs t' ∧ nw = (r', tup2 (.int ((-a).fdiv (-b)) t1) (.int ((-a).fmod (-b)) t2)) :: t' ∧ r = .ref r') := fun ta tb => by
    by_cases h : 0 ≤ -a
    · exact (idm_pp w mean mg mb (-a) (-b) ta tb ht (by omega) (by omega) h (by omega)).mono (by omega) fun _ _ q => q
    · exact idm_np w mean mg mb (-a) (-b) ta tb ht (by omega) (by omega) (by omega) (by rw [eb, show - -a - 1 = a - 1 by omega]; exact hd)
  refine CallOk.use (C _ _) B' F2 X' N2 T' rfl (by first | exact room1 hdp rfl | ktr_room) (by first | exact units1 hun rfl | ktr_units) ?_
  intro r1 nw1 h1' tk1 F1 N1 K1 hr1
  refine hideG ?_; intro HP back; obtain ⟨t', r', t1, t2, ht', rfl, rfl⟩ := hr1; refine back ?_; clear back HP
  clear F2 N2
  dsimp only
  k_steps
  with_reducible rename Fr h₀ _ _ _ => Fe
  with_reducible rename News h₀ _ _ _ => Ne
  with_reducible rename Fr g _ _ _ => Fg
  with_reducible rename News g _ _ _ => Ng
  have e1 : (-a).fdiv (-b) = a.fdiv b := Int.neg_fdiv_neg a b
  have e2 : -((-a).fmod (-b)) = a.fmod b := neg_mod a b
  rw [e1, e2] at Ne Ng
  have sub : ∀ (o : Addr × Obj) (x : Addr × Obj), ∀ p ∈ o :: t', p ∈ o :: x :: t' := fun o x p hp => by simp only [List.mem_cons] at hp ⊢; rcases hp with h | h <;> simp [h]
  exact hret _ _ _ _ Fe (newsSub Ne (sub _ _)) (G.back Fg (newsSub Ng (sub _ _))) ⟨t', _, _, _, ht', rfl, rfl⟩
end Mine
end
-- CTabD
section
open PySem PySem.W PyProof.Rows PySem.Calls
set_option maxRecDepth 100000
namespace Mine
theorem Tabs.data {t : Ledg} (ht : Tabs t) : ∀ p ∈ t, ∃ vs, p.2.data = .fields vs := by
  obtain ⟨p1, e1, p2, e2, t1, t2, rfl⟩ := ht.is
  intro p hp
  rcases List.mem_append.mp hp with hp | hp
  · rcases List.mem_cons.mp hp with rfl | hp
    · exact ⟨_, rfl⟩
    · obtain ⟨vs, _, a, _⟩ := t1.mem hp; exact ⟨vs, a⟩
  · rcases List.mem_cons.mp hp with rfl | hp
    · exact ⟨_, rfl⟩
    · obtain ⟨vs, _, a, _⟩ := t2.mem hp; exact ⟨vs, a⟩
def NoF : Ledg → Prop
  | [] => True
  | q :: r => (∀ vs, q.2.data ≠ .fields vs) ∧ NoF r
theorem NoF.mem : ∀ {r : Ledg}, NoF r → ∀ q ∈ r, ∀ vs, q.2.data ≠ .fields vs
  | [], _, _, h => nomatch h
  | _ :: _, x, q, h => by
    rcases List.mem_cons.mp h with rfl | h
    · exact x.1
    · exact NoF.mem x.2 q h
theorem NoF.app : ∀ {a b : Ledg}, NoF a → NoF b → NoF (a ++ b)
  | [], _, _, h => h
  | _ :: _, _, x, y => ⟨x.1, NoF.app x.2 y⟩
theorem NoF.of : ∀ {r : Ledg}, (∀ q ∈ r, ∀ vs, q.2.data ≠ .fields vs) → NoF r
  | [], _ => trivial
  | _ :: _, h => ⟨h _ (.head _), NoF.of fun q hq => h q (.tail _ hq)⟩
/-- none of the facts speaks of the tables -/
theorem dis_tabs {t rest : Ledg} (ht : Tabs t) (hn : NoF rest) {h₀ : Heap} {L : Addr} {h : Heap} (N : News h₀ L h (t ++ rest)) : ∀ p ∈ rest, p.1 ∉ t.map (·.1) := by
  intro p hp hm
  obtain ⟨q, hq, e⟩ := List.mem_map.mp hm
  have so := sameObj N (List.mem_append_left _ hq) (List.mem_append_right _ hp) e
  obtain ⟨vs, hd⟩ := ht.data q hq
  exact hn.mem p hp vs (so ▸ hd)
theorem dis_cons {D : Addr} {o : Obj} {t rest : Ledg} (ht : Tabs t) (h1 : ∀ q ∈ rest, q.1 ≠ D) (hn : NoF rest) {h₀ : Heap} {L : Addr} {h : Heap} (N : News h₀ L h (((D, o) :: t) ++ rest)) : ∀ p ∈ rest, p.1 ∉ ((D, o) :: t).map (·.1) := by
  intro p hp hm
  rcases List.mem_cons.mp hm with e | hm
  · exact h1 p hp e
  · exact dis_tabs ht hn (fun q hq => N q (.tail _ hq)) p hp hm
end Mine
end
-- CHalf
section
open PySem PySem.W PyProof.Rows PySem.Calls
set_option maxRecDepth 100000
set_option maxHeartbeats 4000000
namespace Mine
theorem off6 : True := by
  w_top off
  k_with_none
  exact trivial
theorem fill23 : (Challenge.rw_re0104_01, hd.heap_1) = (Challenge.rw_re0104_01, hd.heap_1) := by
  k_fill
  rfl
theorem lineCHalf1 : True := by
  k_with "binaryOp LShift int int" => (refine lshift_int (by assumption) (by assumption) ?_)
  exact trivial
/-- a pair of ints -/
structure Half where
  at_ : Addr
  x : Int
  tx : Tok
  y : Int
  ty : Tok
abbrev hIts (H : List Half) : List Value := H.map fun p => .ref p.at_
abbrev hLed (H : List Half) : Ledg := H.map fun p => (p.at_, tup2 (.int p.x p.tx) (.int p.y p.ty))
theorem hLed_noF (H : List Half) : NoF (hLed H) := NoF.of fun q hq vs e => by
  obtain ⟨p, _, rfl⟩ := List.mem_map.mp hq
  cases e
abbrev hv (N : Int) (k i : Nat) : Int × Int := ((N * 2 ^ (k * i)).fdiv (2 ^ (k * 8)), (N * 2 ^ (k * i)).fmod (2 ^ (k * 8)))
theorem num_bits {k : Nat} {ns : List Int} (hk : 2 ≤ k) (hl : ns.length = 8) (hB : ∀ d ∈ ns, 1 ≤ d ∧ d ≤ 3) : 0 ≤ unD (2 ^ k) ns ∧ Builtin.Int.intBits (unD (2 ^ k) ns) ≤ k * 8 + 2 := by
  have h0 : 0 ≤ unD (2 ^ k) ns := unD_nonneg (Int.le_of_lt (Int.pow_pos (by decide))) fun d hd => by have := hB d hd; omega
  have h1 := unD_le (B := 2 ^ k) (C := 4) (two_le_pow (by omega)) (by decide) (xs := ns) fun d hd => by have := hB d hd; omega
  refine ⟨h0, bits_of_lt h0 ?_⟩
  rw [hl, ← Int.pow_mul] at h1
  rw [Int.pow_add]
  omega
theorem shl_bits {N : Int} {a b : Nat} (h0 : 0 ≤ N) (h : Builtin.Int.intBits N ≤ a) : 0 ≤ N * 2 ^ b ∧ Builtin.Int.intBits (N * 2 ^ b) ≤ a + b := by
  have p : (0 : Int) < 2 ^ b := Int.pow_pos (by decide)
  have z : 0 ≤ N * 2 ^ b := Int.mul_nonneg h0 (Int.le_of_lt p)
  refine ⟨z, bits_of_lt z ?_⟩
  rw [Int.pow_add]
  exact Int.mul_lt_mul_of_pos_right (Int.lt_of_lt_of_le (lt_pow_bits h0) (pow_le_pow2 h)) p
theorem pow_bits (j : Nat) : Builtin.Int.intBits (2 ^ j : Int) = j + 1 := by
  unfold Builtin.Int.intBits
  have p : (2 : Int) ^ j ≠ 0 := Int.ne_of_gt (Int.pow_pos (by decide))
  rw [if_neg (by simpa using p)]
  have e : ((2 : Int) ^ j).natAbs = 2 ^ j := by rw [Int.natAbs_pow]; rfl
  rw [e, Nat.log2_two_pow]
theorem cellTok {o : Obj} {v : Int} {t : Tok} (_ : o.data = Data.cell (some (Value.int v t))) : ∃ t', t' = t := ⟨_, rfl⟩
theorem ledHead {h₀ h : Heap} {L a : Addr} {o : Obj} {r : Ledg} (_ : News h₀ L h ((a, o) :: r)) : ∃ o', o' = o := ⟨_, rfl⟩
theorem ledHead2 {h₀ h : Heap} {L a b : Addr} {o o2 : Obj} {r : Ledg} (_ : News h₀ L h ((a, o) :: (b, o2) :: r)) : ∃ o', o' = o2 := ⟨_, rfl⟩
local macro_rules | `(tactic| k_all) => `(tactic| assumption)
theorem halves_ok (w : World) (mean : ExcName → Option Value) (mg mb : Str → Option Value) (l : Addr) (vs : List Value) (ns : List Int) (nn : Nat) (k : Nat) (tn : Tok) {t : Ledg} (ht : Tabs t) (hn : 2 ≤ k) (hn2 : k ≤ 12) (hI : IntsAre vs ns) (hl : ns.length = 8) (hB : ∀ d ∈ ns, 1 ≤ d ∧ d ≤ 3) :
    CallOk w mean mg mb ((l, listOf vs.toArray nn) :: t) 40 159 [.ref l, .int (k : Int) tn] (fun r nw => ∃ t' H D, Tabs t' ∧ H.map (fun p => (p.x, p.y)) = (List.range 9).map (hv (unD (2 ^ k) ns.reverse) k) ∧ r = .ref D ∧ nw = (D, listOf (hIts H).toArray 9) :: (l, listOf vs.toArray nn) :: (hLed H ++ t')) := by
  have hlI : (ns.length : Int) = 8 := by rw [hl]; rfl
  have hrB0 : ∀ d ∈ ns.reverse, 1 ≤ d ∧ d ≤ 3 := fun d hd => hB d (List.mem_reverse.mp hd)
  have hrl8 : ns.reverse.length = 8 := by rw [List.length_reverse, hl]
  obtain ⟨hN0, hNb⟩ := num_bits hn hrl8 hrB0
  have eT : ((k : Int)).toNat = k := Int.toNat_natCast k
  generalize hNN : unD (2 ^ k) ns.reverse = NN at *
  have hs0 : 0 ≤ (k : Int) * (ns.length : Int) := by rw [hlI]; omega
  have b1 : Builtin.Int.intBits 1 = 1 := by decide +kernel
  have hs1 : ((Builtin.Int.intBits 1 : Nat) : Int) + (k : Int) * (ns.length : Int) ≤ 2 ^ 27 := by rw [hlI, b1]; omega
  have hPW : (1 : Int) * 2 ^ ((k : Int) * (ns.length : Int)).toNat = 2 ^ (k * 8) := by
    rw [Int.one_mul, hlI]; congr 1
  unfold CallOk
  intro dp un gd cn cs a' ccd cl outer A₀ base h₀ L m s Q E B F X N T hk hdp hun hret
  refine wpAny_call ?_
  (refine' enterC_K ?k1 ?k2 ?k3 ?k4 ?k5 ?kA ?kF ?kK ?k6 ?k7 ?k8 ?k9 ?kB ?kD ?_ ?c2 ?c3 ?c4; (case kA => exact rfl); (case kF => exact rfl); (case kK => assumption); (case k1 => k_asm); (case k2 => k_asm); (case k3 => k_asm); (case k4 => k_asm); (case k5 => k_asm); (case k6 => k_is); (case k7 => k_is); (case k8 => first | exact room0 hdp | ktr_room); (case k9 => exact BindsTo.of_eq rfl); (case kB => exact rfl); (case kD => decide +kernel); (case c2 => exact rfl); (case c3 => exact rfl); (case c4 => exact rfl); k_whole; intro g' L' h' tk' cells' G' FG' F' N' Y' B' X' T' l1)
  k_lt l1
  have hY := CellsAre.three Y'
  refine hideG ?_; intro HP back; obtain ⟨o3, o2, o1, hE, d3, d2, d1⟩ := hY; refine back ?_; clear back HP
  subst hE; clear Y'
  simp only [List.cons_append, List.nil_append] at N'
  dsimp only
  (try k_fold)
  k_steps
  with_reducible rename Fr _ _ _ _ => F2
  with_reducible rename News _ _ _ _ => N2
  with_reducible rename IntsAre _ ns.reverse => hI2
  rename _ ∧ _ ∧ _ ∧ _ ∧ AllLt _ t => lD
  obtain ⟨D, hD⟩ := headOf N2
  subst hD
  have hrl : ns.reverse.length < 10 := by rw [List.length_reverse, hl]; decide
  have hrB : ∀ d ∈ ns.reverse, 0 ≤ d ∧ d < 2 ^ 1000 := fun d hd => by
    have z := hB d (List.mem_reverse.mp hd)
    have : (3 : Int) < 2 ^ 1000 := by decide +kernel
    omega
  have l1a : l < L' := l1.1
  have noC : ∀ {o : Obj} {v : Option Value}, o.data = .cell v → ∀ vs, o.data ≠ .fields vs := fun e vs e' => by rw [e] at e'; cases e'
  refine CallOk.use ((d2i_t w mean mg mb D _ ns.reverse 0 k _ ht (by omega) (by omega) hI2 hrl hrB).frame [(L' + 1 + 1 + 1, o3), (L' + 1 + 1, o2), (L' + 1, o1), (l, listOf vs.toArray nn)] (fun _ _ _ N => dis_cons ht ?_ ?_ N)) B' F2 X' (newsSub N2 ?_) T' rfl (by first | exact room1 hdp rfl | ktr_room) (by first | exact units1 hun rfl | ktr_units) ?_
  · refine hideG ?_; intro HP back; obtain ⟨q1, q2, q3, q4, _⟩ := lD; refine back ?_; clear back HP
    intro q hq
    simp only [List.mem_cons, List.not_mem_nil, or_false] at hq
    rcases hq with rfl | rfl | rfl | rfl
    · exact Nat.ne_of_lt q1
    · exact Nat.ne_of_lt q2
    · exact Nat.ne_of_lt q3
    · exact Nat.ne_of_lt q4
  · exact ⟨noC d3, noC d2, noC d1, (fun vs e => by cases e), trivial⟩
  · intro p hp
    simp only [List.mem_cons, List.mem_append, List.cons_append, List.not_mem_nil, or_false] at hp ⊢
    rcases hp with h | h | h | h | h | h <;> simp [h]
  intro r1 nw1 h1' tk1 F1 N1 K1 hr1
  refine hideG ?_; intro HP back; obtain ⟨nw2, rfl, hap, t', ht', rfl, tq, rfl⟩ := hr1; refine back ?_; clear back HP
  rw [eT, hNN]
  have a3 : ∀ p ∈ t', p.1 ≠ L' + 1 + 1 + 1 := fun p hp => hap p (.tail _ hp) _ (.head _)
  have a2 : ∀ p ∈ t', p.1 ≠ L' + 1 + 1 := fun p hp => hap p (.tail _ hp) _ (.tail _ (.head _))
  have a1 : ∀ p ∈ t', p.1 ≠ L' + 1 := fun p hp => hap p (.tail _ hp) _ (.tail _ (.tail _ (.head _)))
  replace N1 : News g' L' h1' ((L' + 1 + 1 + 1, o3) :: (L' + 1 + 1, o2) :: (L' + 1, o1) :: (l, listOf vs.toArray nn) :: t') := newsSub N1 (fun p hp => by simp only [List.mem_cons, List.mem_append, List.cons_append] at hp ⊢; rcases hp with h | h | h | h | h <;> simp [h])
  clear F2 N2
  dsimp only
  repeat' (first | (k_unfold; (try dsimp only)) | ((fail_if_success (with_reducible show LCg.CompSrc _ _ _ _ _ _ _ _ _ _ _ _ _ _)); first | walk1 | (dsimp only; walk1)))
  with_reducible rename Fr _ _ _ _ => F2
  with_reducible rename News _ _ _ _ => N2
  rename Obj.data _ = Data.cell (some (Value.int (1 * _) _)) => d3'
  obtain ⟨tkp, htkp⟩ := cellTok d3'
  rename Obj.data _ = Data.cell (some (Value.int NN _)) => d2'
  rw [hPW, ← htkp] at d3'
  obtain ⟨O3, hO3⟩ := ledHead N2
  subst hO3
  obtain ⟨O2, hO2⟩ := ledHead2 N2
  subst hO2
  have N3 : News g' L' _ ((L' + 1 + 1 + 1, O3) :: (L' + 1 + 1, O2) :: (L' + 1, o1) :: (l, listOf vs.toArray nn) :: (hLed [] ++ t')) := newsSub N2 (fun p hp => by
    simp only [List.mem_cons, List.map_nil, List.nil_append] at hp ⊢
    rcases hp with h | h | h | h | h <;> simp [h])
  refine LCg.CompSrc.range (n := 9) rfl F2 N3 (by assumption) ?_ ?_ ?_ ?_
  · rw [hlI]; decide
  · rw [hlI]; decide
  · decide
  intro g9
  clear N2
  refine comp_ind 9 (fun i ys news => ∃ H tt, Tabs tt ∧ H.length = i ∧ ys = hIts H ∧ H.map (fun p => (p.x, p.y)) = (List.range i).map (hv NN k) ∧ news = (L' + 1 + 1 + 1, O3) :: (L' + 1 + 1, O2) :: (L' + 1, o1) :: (l, listOf vs.toArray nn) :: (hLed H ++ tt)) ?_ ?_ 9 0 [] _ rfl ?_
  · intro ys news hzz
    refine hideG ?_; intro HP back; obtain ⟨H, tt, htt, hHl, rfl, hHv, rfl⟩ := hzz; refine back ?_; clear back HP
    intro D9 h9 tk9 F9 N9 o9
    clear N3 F2
    dsimp only
    k_steps
    with_reducible rename Fr h₀ _ _ _ => Fe
    with_reducible rename News h₀ _ _ _ => Ne
    have eL : (LCg.lst (hIts H) : Obj) = listOf (hIts H).toArray 9 := by
      show ({ cls := .type "list", data := .seq (hIts H).toArray (hIts H).length } : Obj) = _
      rw [List.length_map, hHl]
    rw [eL] at Ne N9
    have sub : ∀ p ∈ (D9, listOf (hIts H).toArray 9) :: (l, listOf vs.toArray nn) :: (hLed H ++ tt), p ∈ (D9, listOf (hIts H).toArray 9) :: (L' + 1 + 1 + 1, O3) :: (L' + 1 + 1, O2) :: (L' + 1, o1) :: (l, listOf vs.toArray nn) :: (hLed H ++ tt) := fun p hp => by
      simp only [List.mem_cons] at hp ⊢
      rcases hp with h | h | h <;> simp [h]
    exact hret _ _ _ _ Fe (newsSub Ne sub) (G'.back F9 (newsSub N9 sub)) ⟨tt, H, D9, htt, hHv, rfl, rfl⟩
  · rintro i ys news hi ⟨H, tt, htt, hHl, rfl, hHv, rfl⟩ v I oI C oC D2 m2 h7 tk7 E7 ⟨tv, rfl⟩ hC hm2 F7 N7 off7 ne7
    clear N3 F2
    have hsh : ((k : Int) * (0 + (i : Int))).toNat = k * i := by
      rw [Int.zero_add, ← Int.natCast_mul, Int.toNat_natCast]
    have ki : k * i ≤ 96 := Nat.mul_le_mul hn2 (Nat.le_of_lt_succ hi)
    have s0 : 0 ≤ (k : Int) * (0 + (i : Int)) := by rw [Int.zero_add, ← Int.natCast_mul]; exact Int.natCast_nonneg _
    have s1 : ((Builtin.Int.intBits NN : Nat) : Int) + (k : Int) * (0 + (i : Int)) ≤ 2 ^ 27 := by rw [Int.zero_add, ← Int.natCast_mul]; omega
    obtain ⟨hA0, hAb⟩ := shl_bits (b := k * i) hN0 hNb
    have hki8 : k * i ≤ k * 8 := Nat.mul_le_mul (Nat.le_refl _) (Nat.le_of_lt_succ hi)
    k_steps
    with_reducible rename Fr _ _ _ _ => F8
    with_reducible rename News _ _ _ _ => N8
    rw [hsh]
    have noF : NoF ((L' + 1 + 1 + 1, O3) :: (L' + 1 + 1, O2) :: (L' + 1, o1) :: (l, listOf vs.toArray nn) :: hLed H) := ⟨noC d3', noC d2', noC d1, (fun vs e => by cases e), hLed_noF H⟩
    have offs := off7.mem
    have CC := (idm_pp w mean mg mb (NN * 2 ^ (k * i)) (2 ^ (k * 8)) (tk7 + 1) tkp htt (Int.pow_pos (by decide)) (by rw [pow_bits]; omega) hA0 (by rw [pow_bits]; omega)).frame ((I, oI) :: (C, oC) :: (D2, LCg.lst (hIts H)) :: (L' + 1 + 1 + 1, O3) :: (L' + 1 + 1, O2) :: (L' + 1, o1) :: (l, listOf vs.toArray nn) :: hLed H) (fun h₀ L h N p hp hm => by
      have inN : ∀ q ∈ tt, q ∈ (L' + 1 + 1 + 1, O3) :: (L' + 1 + 1, O2) :: (L' + 1, o1) :: (l, listOf vs.toArray nn) :: (hLed H ++ tt) := fun q hq => by simp [hq]
      rcases List.mem_cons.mp hp with rfl | hp
      · obtain ⟨q, hq, e⟩ := List.mem_map.mp hm; exact (offs q (inN q hq)).1 e
      · rcases List.mem_cons.mp hp with rfl | hp
        · obtain ⟨q, hq, e⟩ := List.mem_map.mp hm; exact (offs q (inN q hq)).2.1 e
        · rcases List.mem_cons.mp hp with rfl | hp
          · obtain ⟨q, hq, e⟩ := List.mem_map.mp hm; exact (offs q (inN q hq)).2.2 e
          · exact dis_tabs htt noF (fun q hq => N q (by rcases List.mem_append.mp hq with h | h; exact List.mem_append_left _ h; exact List.mem_append_right _ (.tail _ (.tail _ (.tail _ h))))) p hp hm)
    refine CallOk.use CC B' F8 X' (newsSub N8 ?_) T' rfl (by first | exact room1 hdp rfl | ktr_room) (by first | exact units1 hun rfl | ktr_units) ?_
    · intro p hp
      simp only [List.mem_cons, List.mem_append] at hp ⊢
      rcases hp with h | h | h | h | h | h | h | h | h <;> simp [h]
    · intro r1 nw1 h1' tk1 F1 N1 K1 hr1
      refine hideG ?_; intro HP back; obtain ⟨nw2, rfl, hap, t3, r', u1, u2, ht3, rfl, rfl⟩ := hr1; refine back ?_; clear back HP
      refine LCg.CompEnd.intro F1 N1 ((L' + 1 + 1 + 1, O3) :: (L' + 1 + 1, O2) :: (L' + 1, o1) :: (l, listOf vs.toArray nn) :: (hLed (H ++ [⟨r', (NN * 2 ^ (k * i)).fdiv (2 ^ (k * 8)), u1, (NN * 2 ^ (k * i)).fmod (2 ^ (k * 8)), u2⟩]) ++ t3)) ?_ ?_ trivial ⟨H ++ [⟨r', (NN * 2 ^ (k * i)).fdiv (2 ^ (k * 8)), u1, (NN * 2 ^ (k * i)).fmod (2 ^ (k * 8)), u2⟩], t3, ht3, ?_, ?_, ?_, rfl⟩
      · intro p hp
        simp only [List.mem_cons, List.mem_append, List.cons_append, hLed, List.map_append, List.map_cons, List.map_nil, List.not_mem_nil, or_false] at hp ⊢
        rcases hp with h | h | h | h | h | h | h | (h | h) | h <;> simp [h]
      · refine LCg.Off3.of fun p hp => ?_
        simp only [List.mem_cons, List.mem_append, hLed, List.map_append, List.map_cons, List.map_nil, List.not_mem_nil, or_false] at hp
        have old : ∀ q ∈ (L' + 1 + 1 + 1, O3) :: (L' + 1 + 1, O2) :: (L' + 1, o1) :: (l, listOf vs.toArray nn) :: hLed H, q.1 ≠ I ∧ q.1 ≠ C ∧ q.1 ≠ D2 := fun q hq => offs q (by
          simp only [List.mem_cons, List.mem_append] at hq ⊢
          rcases hq with h | h | h | h | h <;> simp [h])
        have new : ∀ q ∈ (r', tup2 (.int ((NN * 2 ^ (k * i)).fdiv (2 ^ (k * 8))) u1) (.int ((NN * 2 ^ (k * i)).fmod (2 ^ (k * 8))) u2)) :: t3, q.1 ≠ I ∧ q.1 ≠ C ∧ q.1 ≠ D2 := fun q hq => ⟨hap q hq (I, oI) (.head _), hap q hq (C, oC) (.tail _ (.head _)), hap q hq (D2, LCg.lst (hIts H)) (.tail _ (.tail _ (.head _)))⟩
        rcases hp with h | h | h | h | (h | h) | h
        · exact old p (by simp [h])
        · exact old p (by simp [h])
        · exact old p (by simp [h])
        · exact old p (by simp [h])
        · exact old p (by simp only [List.mem_cons, hLed]; simp [h])
        · exact new p (by simp [h])
        · exact new p (by simp [h])
      · rw [List.length_append, hHl]; rfl
      · simp only [hIts, List.map_append, List.map_cons, List.map_nil]
      · rw [List.map_append, hHv, List.range_succ, List.map_append]; rfl
  · exact ⟨[], t', ht', rfl, rfl, rfl, rfl⟩
end Mine
end
-- Cn
section
open PySem PySem.W PyProof.Rows PySem.Calls
set_option maxRecDepth 100000
namespace Mine
theorem frMap {g h : Heap} {L : Addr} {m : Str → Option Value} (F : Fr g L h m) : ∃ m', m' = m ∧ Fr g L h m' := ⟨m, rfl, F⟩
theorem intsVs {vs : List Value} {ns : List Int} (h : IntsAre vs ns) : ∃ vs' ns', vs' = vs ∧ ns' = ns ∧ IntsAre vs' ns' := ⟨vs, ns, rfl, rfl, h⟩
theorem cn1 {m : Str → Option Value} {x1 : Str} {v1 : Value} (h1 : m x1 = some v1) : m = fun y => if y = x1 then some v1 else m y := by
  funext y
  repeat' split
  all_goals first | rfl | (rename_i h; rw [h]; assumption)
theorem cn2 {m : Str → Option Value} {x1 x2 : Str} {v1 v2 : Value} (h1 : m x1 = some v1) (h2 : m x2 = some v2) : m = fun y => if y = x1 then some v1 else if y = x2 then some v2 else m y := by
  funext y
  repeat' split
  all_goals first | rfl | (rename_i h; rw [h]; assumption)
theorem cn3 {m : Str → Option Value} {x1 x2 x3 : Str} {v1 v2 v3 : Value} (h1 : m x1 = some v1) (h2 : m x2 = some v2) (h3 : m x3 = some v3) : m = fun y => if y = x1 then some v1 else if y = x2 then some v2 else if y = x3 then some v3 else m y := by
  funext y
  repeat' split
  all_goals first | rfl | (rename_i h; rw [h]; assumption)
theorem cn4 {m : Str → Option Value} {x1 x2 x3 x4 : Str} {v1 v2 v3 v4 : Value} (h1 : m x1 = some v1) (h2 : m x2 = some v2) (h3 : m x3 = some v3) (h4 : m x4 = some v4) : m = fun y => if y = x1 then some v1 else if y = x2 then some v2 else if y = x3 then some v3 else if y = x4 then some v4 else m y := by
  funext y
  repeat' split
  all_goals first | rfl | (rename_i h; rw [h]; assumption)
theorem cn5 {m : Str → Option Value} {x1 x2 x3 x4 x5 : Str} {v1 v2 v3 v4 v5 : Value} (h1 : m x1 = some v1) (h2 : m x2 = some v2) (h3 : m x3 = some v3) (h4 : m x4 = some v4) (h5 : m x5 = some v5) : m = fun y => if y = x1 then some v1 else if y = x2 then some v2 else if y = x3 then some v3 else if y = x4 then some v4 else if y = x5 then some v5 else m y := by
  funext y
  repeat' split
  all_goals first | rfl | (rename_i h; rw [h]; assumption)
theorem cn6 {m : Str → Option Value} {x1 x2 x3 x4 x5 x6 : Str} {v1 v2 v3 v4 v5 v6 : Value} (h1 : m x1 = some v1) (h2 : m x2 = some v2) (h3 : m x3 = some v3) (h4 : m x4 = some v4) (h5 : m x5 = some v5) (h6 : m x6 = some v6) : m = fun y => if y = x1 then some v1 else if y = x2 then some v2 else if y = x3 then some v3 else if y = x4 then some v4 else if y = x5 then some v5 else if y = x6 then some v6 else m y := by
  funext y
  repeat' split
  all_goals first | rfl | (rename_i h; rw [h]; assumption)
theorem cn7 {m : Str → Option Value} {x1 x2 x3 x4 x5 x6 x7 : Str} {v1 v2 v3 v4 v5 v6 v7 : Value} (h1 : m x1 = some v1) (h2 : m x2 = some v2) (h3 : m x3 = some v3) (h4 : m x4 = some v4) (h5 : m x5 = some v5) (h6 : m x6 = some v6) (h7 : m x7 = some v7) : m = fun y => if y = x1 then some v1 else if y = x2 then some v2 else if y = x3 then some v3 else if y = x4 then some v4 else if y = x5 then some v5 else if y = x6 then some v6 else if y = x7 then some v7 else m y := by
  funext y
  repeat' split
  all_goals first | rfl | (rename_i h; rw [h]; assumption)
theorem cn8 {m : Str → Option Value} {x1 x2 x3 x4 x5 x6 x7 x8 : Str} {v1 v2 v3 v4 v5 v6 v7 v8 : Value} (h1 : m x1 = some v1) (h2 : m x2 = some v2) (h3 : m x3 = some v3) (h4 : m x4 = some v4) (h5 : m x5 = some v5) (h6 : m x6 = some v6) (h7 : m x7 = some v7) (h8 : m x8 = some v8) : m = fun y => if y = x1 then some v1 else if y = x2 then some v2 else if y = x3 then some v3 else if y = x4 then some v4 else if y = x5 then some v5 else if y = x6 then some v6 else if y = x7 then some v7 else if y = x8 then some v8 else m y := by
  funext y
  repeat' split
  all_goals first | rfl | (rename_i h; rw [h]; assumption)
theorem cn9 {m : Str → Option Value} {x1 x2 x3 x4 x5 x6 x7 x8 x9 : Str} {v1 v2 v3 v4 v5 v6 v7 v8 v9 : Value} (h1 : m x1 = some v1) (h2 : m x2 = some v2) (h3 : m x3 = some v3) (h4 : m x4 = some v4) (h5 : m x5 = some v5) (h6 : m x6 = some v6) (h7 : m x7 = some v7) (h8 : m x8 = some v8) (h9 : m x9 = some v9) : m = fun y => if y = x1 then some v1 else if y = x2 then some v2 else if y = x3 then some v3 else if y = x4 then some v4 else if y = x5 then some v5 else if y = x6 then some v6 else if y = x7 then some v7 else if y = x8 then some v8 else if y = x9 then some v9 else m y := by
  funext y
  repeat' split
  all_goals first | rfl | (rename_i h; rw [h]; assumption)
end Mine
end
-- L1i
section
open PySem PySem.W PyProof.Rows PySem.Calls PySem.Spec
namespace Mine
set_option maxRecDepth 100000
/-- of the law's own body and scope -/
def AtLaw (w : World) (Φ : List Stmt → Scope → Prop) : Prop := ∀ o, (hd.heap_1 w.params).lookup 176 = some o → match o.data with
  | .func fd => (match fd.body with | .stmts b => Φ b fd.scope | _ => True)
  | _ => True
theorem atLaw_intro {w : World} {Φ : List Stmt → Scope → Prop} {oc od osl name qual params b sc dV kV doc pm an cdv ct} (h : (hd.heap_1 w.params).lookup 176 = some ⟨oc, od, .func (fnOf name qual params b sc dV kV doc pm an cdv ct), osl⟩) (k : Φ b sc) : AtLaw w Φ := fun o ho => by
  rw [h] at ho
  cases ho
  exact k
theorem atLaw_use {w : World} {Φ : List Stmt → Scope → Prop} {oc od osl name qual params b sc dV kV doc pm an cdv ct} (A : AtLaw w Φ) (h : (hd.heap_1 w.params).lookup 176 = some ⟨oc, od, .func (fnOf name qual params b sc dV kV doc pm an cdv ct), osl⟩) : Φ b sc := A _ h
theorem nextUse {w : World} {Φ : List Stmt → Scope → Prop} {G : Prop} {oc od osl name qual params b sc dV kV doc pm an cdv ct} (A : AtLaw w Φ) (h : (hd.heap_1 w.params).lookup 176 = some ⟨oc, od, .func (fnOf name qual params b sc dV kV doc pm an cdv ct), osl⟩) (k : Φ b sc → G) : G := k (A _ h)
/-- what stands all along -/
structure Cx (w : World) (mean : ExcName → Option Value) (mg mb : Str → Option Value) (gh : Heap) : Prop where
  X : (hd.heap_1 w.params).In gh
  T : Top topProg LO mean mg mb gh
  B : Below callerA gh [] gh
def LFin (gh : Heap) (L : Addr) (s : Shared) (Q : Flow → Shared → Prop) : Prop :=
  ∀ m h tk gs p1 p2 p3, Fr gh L h m → News gh L h [(37, tabObj p1), (44, tabObj p2), (119, tabObj p3)] → AllBare gs → Q (.ret (.bool true)) { s with heap := h, toks := tk, gens := gs }
theorem LFin.to {gh : Heap} {L : Addr} {s : Shared} {Q : Flow → Shared → Prop} (h : LFin gh L s Q) (hp : Heap) (tk : Nat) (gs : Array GenState) : LFin gh L { s with heap := hp, toks := tk, gens := gs } Q := fun m h' tk' gs' p1 p2 p3 F N G => h m h' tk' gs' p1 p2 p3 F N G
/-- a stretch of the law: from its k-th statement on, all is well -/
def Stretch (w : World) (k : Nat) (Pre : (Str → Option Value) → Ledg → Prop) : Prop :=
  AtLaw w fun b sc => ∀ (mean : ExcName → Option Value) (mg mb : Str → Option Value) (gh : Heap) (L fa : Addr) (cd : Value) (s : Shared) (Q : Flow → Shared → Prop) (R : Result → Shared → Prop) (m : Str → Option Value) (news : Ledg),
    Cx w mean mg mb gh → Fr gh L s.heap m → News gh L s.heap news → AllBare s.gens → LFin gh L s Q → Pre m news →
      wpAny (model Challenge.rw_re0104_01.row.prog w) (callerA.deeper (envOf (Str.ofString "law") sc L fa cd)) (execs (b.drop k) (envOf (Str.ofString "law") sc L fa cd)) Q (fun e s' => wpAny (model Challenge.rw_re0104_01.row.prog w) (callerA.deeper (envOf (Str.ofString "law") sc L fa cd)) (leaving (envOf (Str.ofString "law") sc L fa cd) e) (fun _ s'' => R (.error e) s'') (fun e' s'' => R (.error e') s'') s') s
/-- numbers, back, width -/
structure AfterA (m : Str → Option Value) (news : Ledg) : Prop where
  is : ∃ Dn ws n8 t, IntsAre ws n8 ∧ n8.length = 8 ∧ news = (Dn, listOf ws.toArray 0) :: t ∧ t = [(37, tabObj #[]), (44, tabObj #[]), (119, tabObj #[])] ∧ m (Str.ofString "numbers") = some (.ref Dn) ∧ (∃ bk tb, 1 ≤ bk ∧ bk ≤ 5 ∧ m (Str.ofString "back") = some (.int bk tb)) ∧ ∃ (wd : Nat) (tw : Tok), 2 ≤ wd ∧ wd ≤ 12 ∧ m (Str.ofString "width") = some (.int (wd : Int) tw)
/-- the word, the width -/
structure AfterB (m : Str → Option Value) (news : Ledg) : Prop where
  is : ∃ W tw, W.length = 8 ∧ (∀ c ∈ W.cps.toList, 97 ≤ c ∧ c ≤ 99) ∧ news = [(37, tabObj #[]), (44, tabObj #[]), (119, tabObj #[])] ∧ m (Str.ofString "word") = some (.str W tw) ∧ ∃ (wd : Nat) (tw : Tok), 2 ≤ wd ∧ wd ≤ 12 ∧ m (Str.ofString "width") = some (.int (wd : Int) tw)
def valsOf (W : Str) : List Int := W.cps.toList.map fun (c : Nat) => (c : Int) - 96
/-- the word, the width, halves and turned -/
structure AfterC (m : Str → Option Value) (news : Ledg) : Prop where
  is : ∃ W tw H H2 D D2 t, W.length = 8 ∧ (∀ c ∈ W.cps.toList, 97 ≤ c ∧ c ≤ 99) ∧ m (Str.ofString "word") = some (.str W tw) ∧ (∃ (wd : Nat) (tw : Tok), 2 ≤ wd ∧ wd ≤ 12 ∧ m (Str.ofString "width") = some (.int (wd : Int) tw) ∧
      H.map (fun p => (p.x, p.y)) = (List.range 9).map (hv (unD (2 ^ wd) (valsOf W).reverse) wd) ∧ H2.map (fun p => (p.x, p.y)) = (List.range 9).map (hv (unD (2 ^ wd) ((valsOf W).map fun (v : Int) => 4 - v).reverse) wd)) ∧
    Tabs t ∧ (∀ p ∈ t, p.1 ≠ 119) ∧ m (Str.ofString "halves") = some (.ref D) ∧ m (Str.ofString "turned") = some (.ref D2) ∧ news = (D, listOf (hIts H).toArray 9) :: (D2, listOf (hIts H2).toArray 9) :: (119, tabObj #[]) :: (hLed H ++ (hLed H2 ++ t))
/-- the while's count: from k on, at most f turns -/
def perG (N : Int) (wd : Nat) : Nat → Nat → Nat
  | 0, k => k
  | f + 1, k => if (hv N wd (8 - k)).1 * 2 ^ (wd * k) ≠ (hv N wd k).2 then perG N wd f (k + 1) else k
/-- the word's number -/
def numOf (wd : Nat) (W : Str) : Int := unD (2 ^ wd) (valsOf W).reverse
def numOf2 (wd : Nat) (W : Str) : Int := unD (2 ^ wd) ((valsOf W).map fun (v : Int) => 4 - v).reverse
/-- the word, the period, halves and turned -/
structure AfterD (m : Str → Option Value) (news : Ledg) : Prop where
  is : ∃ W tw H H2 D D2 t wd tp, W.length = 8 ∧ (∀ c ∈ W.cps.toList, 97 ≤ c ∧ c ≤ 99) ∧ m (Str.ofString "word") = some (.str W tw) ∧ 2 ≤ wd ∧ wd ≤ 12 ∧ m (Str.ofString "period") = some (.int ((perG (numOf wd W) wd 7 1 : Nat) : Int) tp) ∧
      H.map (fun p => (p.x, p.y)) = (List.range 9).map (hv (numOf wd W) wd) ∧ H2.map (fun p => (p.x, p.y)) = (List.range 9).map (hv (numOf2 wd W) wd) ∧
    Tabs t ∧ (∀ p ∈ t, p.1 ≠ 119) ∧ m (Str.ofString "halves") = some (.ref D) ∧ m (Str.ofString "turned") = some (.ref D2) ∧ news = (D, listOf (hIts H).toArray 9) :: (D2, listOf (hIts H2).toArray 9) :: (119, tabObj #[]) :: (hLed H ++ (hLed H2 ++ t))
end Mine
end
-- LA
section
open PySem PySem.W PyProof.Rows PySem.Calls PySem.Spec
namespace Mine
theorem off7 : True := by
  w_top off
  k_with_none
  exact trivial
set_option maxRecDepth 100000
set_option maxHeartbeats 4000000
theorem fill30 : (Challenge.rw_re0104_01, hd.heap_1) = (Challenge.rw_re0104_01, hd.heap_1) := by
  k_fill
  rfl
theorem fmod_range (a b : Int) (h : 0 < b) : 0 ≤ a.fmod b ∧ a.fmod b < b := by
  rw [Int.fmod_eq_emod_of_nonneg _ (Int.le_of_lt h)]
  exact ⟨Int.emod_nonneg _ (Int.ne_of_gt h), Int.emod_lt_of_pos _ h⟩
theorem phA (w : World) (vs0 : List Value) (ns0 : List Int) (ls : Addr) (hI : IntsAre vs0 ns0) (hlen : ns0.length ≤ 63) (next : Stretch w 3 AfterA) :
    AtLaw w fun b sc => ∀ (mean : ExcName → Option Value) (mg mb : Str → Option Value) (gh : Heap) (L fa : Addr) (cd : Value) (s : Shared) (Q : Flow → Shared → Prop) (R : Result → Shared → Prop) (m : Str → Option Value),
      Cx w mean mg mb gh → gh.IsList ls vs0.toArray → Fr gh L s.heap m → m (Str.ofString "script") = some (.ref ls) → News gh L s.heap [(37, tabObj #[]), (44, tabObj #[]), (119, tabObj #[])] → AllBare s.gens → LFin gh L s Q →
      wpAny (model Challenge.rw_re0104_01.row.prog w) (callerA.deeper (envOf (Str.ofString "law") sc L fa cd)) (execs b (envOf (Str.ofString "law") sc L fa cd)) Q (fun e s' => wpAny (model Challenge.rw_re0104_01.row.prog w) (callerA.deeper (envOf (Str.ofString "law") sc L fa cd)) (leaving (envOf (Str.ofString "law") sc L fa cd) e) (fun _ s'' => R (.error e) s'') (fun e' s'' => R (.error e') s'') s') s := by
  refine' atLaw_intro ?k6 ?_; (case k6 => k_is)
  refine' nextUse next ?k7 ?_; (case k7 => k_is)
  intro nx
  intro mean mg mb gh L fa cd s Q R m CX hL F ms N G fin
  obtain ⟨X', T', B'⟩ := CX
  (try k_fold)
  rw [cn1 ms] at F
  repeat' (first | (k_unfold; (try dsimp only)) | ((fail_if_success (with_reducible show wpAny _ _ (subscriptTail (Expr.List _ _) _ _ _) _ _ _)); first | walk1 | (dsimp only; walk1)))
  with_reducible rename Fr _ _ _ _ => F2
  with_reducible rename News _ _ _ _ => N2
  refine kba_turn (value' := PySem.Expr.Name (PySem.Str.ofString "_") ⟨0, 0, 0, 0⟩) (fun _ => rfl) ?_
  refine kmk_slice_ints F2 N2 ⟨_, (N2 _ (.tail _ (.head _))).1, rfl, _, rfl⟩ (by kmk_part) (by kmk_part) (.cons _ _ (.cons _ _ (.cons _ _ (.cons _ _ (.cons _ _ (.cons _ _ (.cons _ _ (.cons _ _ .nil)))))))) (kmk_from (.cons _ _ (.cons _ _ (.cons _ _ (.cons _ _ (.cons _ _ (.cons _ _ (.cons _ _ (.cons _ _ .nil)))))))) (by omega)) rfl ?_ (by with_unfolding_all rfl) (by intro _; with_unfolding_all rfl) (Nat.le_of_ble_eq_true rfl)
  intro D3 ws3 h3 F3 N3 l3 hI3 hC3 hL3
  clear F2 N2
  k_lt l3
  repeat' (first | (k_unfold; (try dsimp only)) | ((fail_if_success (with_reducible show wpAny _ _ (eval (Expr.ListComp _ _ _ _) _) _ _ _)); first | walk1 | (dsimp only; walk1)))
  with_reducible rename IntsAre _ (_ ++ _) => hI4
  with_reducible rename Fr _ _ _ _ => F4
  with_reducible rename News _ _ _ _ => N4
  obtain ⟨m4, hm4, F5⟩ := frMap F4
  clear F4
  obtain ⟨Dn, hDn⟩ := headOf N4
  subst hDn
  refine hideG ?_; intro HP back; obtain ⟨ws, n8, q1, hn8, hI5⟩ := intsVs hI4; refine back ?_; clear back HP
  subst q1
  have hl8 : n8.length = 8 := by
    rw [hn8, List.length_append, List.length_take, List.length_drop, Int.toNat_natCast]
    simp only [List.length_cons, List.length_nil]
    omega
  have e_num : m4 (Str.ofString "numbers") = some (.ref Dn) := by rw [hm4]; rfl
  have e_scr : m4 (Str.ofString "script") = some (.ref ls) := by rw [hm4]; rfl
  have N5 : News _ _ _ [(Dn, listOf ws.toArray 0), (37, tabObj #[]), (44, tabObj #[]), (119, tabObj #[])] := newsSub N4 (by kcj_all)
  clear hm4 N4 hI4 hn8 hC3 hL3 hI3 l3
  rw [cn2 e_num e_scr] at F5
  refine LCg.ListComp_U (F₀ := F5) (by rfl) (by decide) (by rfl) (by decide) (by rfl) ?_
  repeat' (first | (k_unfold; (try dsimp only)) | ((fail_if_success (with_reducible show LCg.CompSrc _ _ _ _ _ _ _ _ _ _ _ _ _ _)); first | walk1 | (dsimp only; walk1)))
  refine LCg.CompSrc.ledger rfl F5 N5 (.head _) (by rw [List.size_toArray, hI5.length, hl8]; decide) ?_
  intro g5
  refine comp_mapI (fun k => k.fmod 5) hI5 (.inr ⟨_, .head _, rfl, _, rfl⟩) ?_ ?_
  · intro k tk0 I oI C oC D ys m2 h7 tk7 E7 hk hC hx F7 N7
    clear F5 N5
    k_steps
  · intro ys hy D8 h8 tk8 F8 N8 o8
    clear F5 N5
    repeat' (first | (k_unfold; (try dsimp only)) | ((fail_if_success (with_reducible show wpAny _ _ (eval (Expr.ListComp _ _ _ _) _) _ _ _)); first | walk1 | (dsimp only; walk1)))
    with_reducible rename Fr _ _ _ _ => F9
    with_reducible rename News _ _ _ _ => N9
    obtain ⟨m9, hm9, F10⟩ := frMap F9
    clear F9
    have f_num : m9 (Str.ofString "numbers") = some (.ref Dn) := by rw [hm9]; rfl
    have f_scr : m9 (Str.ofString "script") = some (.ref ls) := by rw [hm9]; rfl
    obtain ⟨tb, f_bk⟩ : ∃ tb, m9 (Str.ofString "back") = some (.int (1 + (n8.map fun (k : Int) => k.fmod 5).sum.fmod 5) tb) := ⟨_, by rw [hm9]; rfl⟩
    have N10 : News _ _ _ [(Dn, listOf ws.toArray 0), (37, tabObj #[]), (44, tabObj #[]), (119, tabObj #[])] := newsSub N9 (by kcj_all)
    clear hm9 N9
    rw [cn3 f_num f_scr f_bk] at F10
    refine LCg.ListComp_U (F₀ := F10) (by rfl) (by decide) (by rfl) (by decide) (by rfl) ?_
    repeat' (first | (k_unfold; (try dsimp only)) | ((fail_if_success (with_reducible show LCg.CompSrc _ _ _ _ _ _ _ _ _ _ _ _ _ _)); first | walk1 | (dsimp only; walk1)))
    with_reducible rename Fr _ _ _ _ => F11
    with_reducible rename News _ _ _ _ => N11
    with_reducible rename IntsAre _ (List.take 20 _) => hI20
    obtain ⟨D20, hD20⟩ := headOf N11
    subst hD20
    refine hideG ?_; intro HP back; obtain ⟨ws20, n20, q20, hn20, hI21⟩ := intsVs hI20; refine back ?_; clear back HP
    subst q20
    have hl20 : n20.length ≤ 63 := by rw [hn20, List.length_take]; omega
    refine LCg.CompSrc.ledger rfl F11 N11 (.head _) (by rw [List.size_toArray, hI21.length, sizeLine_eq]; omega) ?_
    intro g12
    refine comp_mapI (fun k => k.fmod 11) hI21 (.inr ⟨_, .head _, rfl, _, rfl⟩) ?_ ?_
    · intro k tk0 I oI C oC D ys m2 h7 tk7 E7 hk hC hx F7 N7
      clear F11 N11
      k_steps
    · intro ys hy D8 h8 tk8 F8 N8 o8
      clear F11 N11
      repeat' (first | (k_unfold; (try dsimp only)) | ((fail_if_success (with_reducible show wpAny _ _ (execs (_ :: _) _) _ _ _)); first | walk1 | (dsimp only; walk1)))
      with_reducible rename Fr _ _ _ _ => F13
      with_reducible rename News _ _ _ _ => N13
      obtain ⟨m13, hm13, F14⟩ := frMap F13
      refine nx mean mg mb gh L fa cd _ Q R m13 [(Dn, listOf ws.toArray 0), (37, tabObj #[]), (44, tabObj #[]), (119, tabObj #[])] ⟨X', T', B'⟩ F14 (newsSub N13 (by kcj_all)) G (fin.to _ _ _) ⟨Dn, ws, n8, _, hI5, hl8, rfl, rfl, by rw [hm13]; rfl, ⟨_, _, ?_, ?_, by rw [hm13]; rfl⟩, ?_⟩
      · have := fmod_range (n8.map fun (k : Int) => k.fmod 5).sum 5 (by decide); omega
      · have := fmod_range (n8.map fun (k : Int) => k.fmod 5).sum 5 (by decide); omega
      · have z := fmod_range (n20.map fun (k : Int) => k.fmod 11).sum 11 (by decide)
        obtain ⟨wd, hwd⟩ : ∃ wd : Nat, 2 + (n20.map fun (k : Int) => k.fmod 11).sum.fmod 11 = (wd : Int) := ⟨(2 + (n20.map fun (k : Int) => k.fmod 11).sum.fmod 11).toNat, by omega⟩
        exact ⟨wd, _, by omega, by omega, by rw [hm13, ← hwd]; rfl⟩
end Mine
end
-- LoopI
section
open PySem PySem.W PyProof.Rows PySem.Calls
set_option maxRecDepth 100000
namespace Mine
section
variable {prog : Program} {w : World} {A : Around} {E : Value → Shared → Prop} {s : Shared} {env : Env} {h₀ : Heap} {x : Str} {body : List Stmt} {Q : Flow → Shared → Prop} {I : Addr} {lp : Addr × Obj}
theorem UnrPost.mono {L : Addr} {s₁ s₂ : Shared} {it : Obj} {r1 r2 : (Str → Option Value) → Ledg → Prop} {f : Flow} (h : UnrPost h₀ L s₁ I it r1 Q f s₂) (k : ∀ m n, r1 m n → r2 m n) : UnrPost h₀ L s₁ I it r2 Q f s₂ := by
  have go : UnrEnd h₀ L s₁ I it r1 s₂ → UnrEnd h₀ L s₁ I it r2 s₂ := by
    rintro ⟨h', tk', m', n', e, F', N', off, a⟩
    exact ⟨h', tk', m', n', e, F', N', off, k _ _ a⟩
  cases f with
  | ret v => exact h
  | brk => exact h
  | next => exact go h
  | cont => exact go h
theorem range_ind {a : Int} (n : Nat) (J : Nat → (Str → Option Value) → Ledg → Prop)
    (base : ∀ m news, J n m news → ∀ h tk, Fr h₀ env.locals h m → News h₀ env.locals h news → Q .next { s with heap := h, toks := tk })
    (step : ∀ i m news, i < n → J i m news → ∀ t h tk, Fr h₀ env.locals h (fun y => if y = x then some (.int (a + (i : Int)) t) else m y) → News h₀ env.locals h ((I, itR (a + ((i + 1 : Nat) : Int)) ((n : Int) - ((i + 1 : Nat) : Int))) :: news) →
      wpAny (model prog w) A (execs body env) (UnrPost h₀ env.locals { s with heap := h, toks := tk } I (itR (a + ((i + 1 : Nat) : Int)) ((n : Int) - ((i + 1 : Nat) : Int))) (J (i + 1)) Q) E { s with heap := h, toks := tk }) :
    ∀ k i m news, i + k = n → J i m news → RangeRest prog w A E h₀ env x body Q s I a n k i m news
  | 0, i, m, news, e, h => base m news (by rw [Nat.add_zero] at e; exact e ▸ h)
  | k + 1, i, m, news, e, h => fun t h' tk F N => wpAny_mono (step i m news (by omega) h t h' tk F N) (fun f s₂ p => UnrPost.mono p fun m' n' r => range_ind n J base step k (i + 1) m' n' (by omega) r) fun _ _ e => e
theorem list_ind (P : List Value → (Str → Option Value) → Ledg → Prop)
    (base : ∀ m news, P [] m news → ∀ h tk, Fr h₀ env.locals h m → News h₀ env.locals h news → Q .next { s with heap := h, toks := tk })
    (step : ∀ v r m news, P (v :: r) m news → ∀ (it : Obj) h tk, it.cls = .type "list_iterator" → Fr h₀ env.locals h (fun y => if y = x then some v else m y) → News h₀ env.locals h ((I, it) :: news) →
      wpAny (model prog w) A (execs body env) (UnrPost h₀ env.locals { s with heap := h, toks := tk } I it (fun m' n' => lp ∈ n' ∧ P r m' n') Q) E { s with heap := h, toks := tk }) :
    ∀ r m news, P r m news → ListRest prog w A E h₀ env x body Q s I lp r m news
  | [], m, news, h => base m news h
  | v :: r, m, news, h => fun it h1 tk hit F N => wpAny_mono (step v r m news h it h1 tk hit F N) (fun f s₂ p => UnrPost.mono p fun m' n' q => ⟨q.1, list_ind P base step r m' n' q.2⟩) fun _ _ e => e
end
end Mine
end
-- LB
section
open PySem PySem.W PyProof.Rows PySem.Calls PySem.Spec
namespace Mine
theorem off8 : True := by
  w_top off
  k_with_none
  exact trivial
set_option maxRecDepth 100000
set_option maxHeartbeats 4000000
theorem fill31 : (Challenge.rw_re0104_01, hd.heap_1) = (Challenge.rw_re0104_01, hd.heap_1) := by
  k_fill
  rfl
theorem item_neg {x : Str} {k : Int} (h1 : 1 ≤ k) (h2 : k ≤ (x.length : Int)) {c : Nat} (h : c ∈ (Txt.item x (-k)).cps.toList) : c ∈ x.cps.toList := by
  have hs : seqIndex? (-k) x.length = some (-k + x.length).toNat := by
    unfold seqIndex?
    have a : -k < 0 := by omega
    have b : 0 ≤ -k + (x.length : Int) := by omega
    have d : -k + (x.length : Int) < x.length := by omega
    rw [if_pos a]
    dsimp only
    rw [if_pos (by rw [Bool.and_eq_true]; exact ⟨decide_eq_true b, decide_eq_true d⟩)]
  have hlt : (-k + (x.length : Int)).toNat < x.cps.size := by have : x.cps.size = x.length := rfl; omega
  have e : Txt.charAt x (-k) = some x.cps[(-k + (x.length : Int)).toNat] := by
    unfold Txt.charAt
    rw [hs]
    simp [hlt]
  unfold Txt.item at h
  rw [e] at h
  have h' : c = x.cps[(-k + (x.length : Int)).toNat] := by simpa using h
  rw [h']
  exact Array.getElem_mem_toList hlt
theorem fmod3 (a : Int) : a.fmod 3 = 0 ∨ a.fmod 3 = 1 ∨ a.fmod 3 = 2 := by
  rw [Int.fmod_eq_emod_of_nonneg _ (by decide)]
  omega
theorem abc_item (a : Int) : ∀ c ∈ (Txt.item (Str.ofString "abc") (a.fmod 3)).cps.toList, 97 ≤ c ∧ c ≤ 99 := by
  rcases fmod3 a with e | e | e <;> rw [e] <;> decide +kernel
theorem app_mem {x y : Str} {c : Nat} (h : c ∈ (x ++ y).cps.toList) : c ∈ x.cps.toList ∨ c ∈ y.cps.toList := by
  rw [Str.cps_append, Array.toList_append] at h
  exact List.mem_append.mp h
theorem phB (w : World) (next : Stretch w 5 AfterB) : Stretch w 3 AfterA := by
  unfold Stretch
  refine' atLaw_intro ?k6 ?_; (case k6 => k_is)
  refine' nextUse next ?k7 ?_; (case k7 => k_is)
  intro nx mean mg mb gh L fa cd s Q R m news CX F N G fin
  intro  hzz
  refine hideG ?_; intro HP back; obtain ⟨Dn, ws, n8, t, hI5, hl8, rfl, rfl, e1, ⟨bk, tb, b1, b2, e2⟩, ⟨wd, tw0, w1, w2, e3⟩⟩ := hzz; refine back ?_; clear back HP
  obtain ⟨X', T', B'⟩ := CX
  dsimp only [List.drop] at nx ⊢
  (try k_fold)
  rw [cn3 e1 e2 e3] at F
  repeat' (first | (k_unfold; (try dsimp only)) | ((fail_if_success (with_reducible show wpAny _ _ (exec (Stmt.For _ _ _ _ _) _) _ _ _)); first | walk1 | (dsimp only; walk1)))
  with_reducible rename Fr _ _ _ _ => F2
  with_reducible rename News _ _ _ _ => N2
  refine For_invVF F2 rfl rfl ?_
  walk1
  refine iter_listUnr rfl F2 N2 (.head _) rfl rfl ?_
  intro I lI
  refine list_ind (fun r m news => ∃ ks W tw, IntsAre r ks ∧ W.length + r.length = 8 ∧ (∀ c ∈ W.cps.toList, 97 ≤ c ∧ c ≤ 99) ∧ news = [(Dn, listOf ws.toArray 0), (37, tabObj #[]), (44, tabObj #[]), (119, tabObj #[])] ∧ m (Str.ofString "word") = some (.str W tw) ∧ m (Str.ofString "back") = some (.int bk tb) ∧ m (Str.ofString "width") = some (.int (wd : Int) tw0)) ?_ ?_ _ _ _ ?_
  · intro m1 nw hzz h5 tk5 F5 N5
    refine hideG ?_; intro HP back; obtain ⟨ks, W, tw1, -, hW, hc, rfl, f1, f2, f3⟩ := hzz; refine back ?_; clear back HP
    clear F2 N2
    dsimp only
    refine nx mean mg mb gh L fa cd _ Q R m1 [(37, tabObj #[]), (44, tabObj #[]), (119, tabObj #[])] ⟨X', T', B'⟩ F5 (newsSub N5 (by kcj_all)) G (fin.to _ _ _) ⟨W, tw1, by simpa using hW, hc, rfl, f1, wd, tw0, w1, w2, f3⟩
  · intro v r m1 nw hzz it h5 tk5 hit F5 N5
    refine hideG ?_; intro HP back; obtain ⟨ks, W, tw1, hks, hW, hc, rfl, f1, f2, f3⟩ := hzz; refine back ?_; clear back HP
    cases hks with
    | @cons kx tkx _ ks' hks' =>
    rw [cn3 f1 f2 f3] at F5
    clear F2 N2
    k_steps
    all_goals first | exact hks' | skip
    all_goals have hW2 : W.length + (r.length + 1) = 8 := hW
    all_goals first
      | (with_reducible show _ = 8; rw [Str.length_append]; omega)
      | (with_reducible show 97 ≤ _; with_reducible rename (_ ∈ Array.toList _) => hm; rcases app_mem hm with hm | hm; exact (hc _ hm).1; first | exact (abc_item kx _ hm).1 | exact (hc _ (item_neg b1 (by omega) hm)).1)
      | (with_reducible show _ ≤ 99; with_reducible rename (_ ∈ Array.toList _) => hm; rcases app_mem hm with hm | hm; exact (hc _ hm).2; first | exact (abc_item kx _ hm).2 | exact (hc _ (item_neg b1 (by omega) hm)).2)
  · exact ⟨n8, Str.empty, _, hI5, by rw [hI5.length, hl8]; rfl, (fun c h => nomatch h), rfl, rfl, rfl, rfl⟩
end Mine
end
-- LC
section
open PySem PySem.W PyProof.Rows PySem.Calls PySem.Spec
namespace Mine
theorem off9 : True := by
  w_top off
  k_with_none
  exact trivial
set_option maxRecDepth 100000
set_option maxHeartbeats 4000000
theorem fill32 : (Challenge.rw_re0104_01, hd.heap_1) = (Challenge.rw_re0104_01, hd.heap_1) := by
  k_fill
  rfl
theorem int_eq {a b : Int} {t : Tok} (h : a = b) : Value.int a t = Value.int b t := by rw [h]
theorem off1_mem {D : Addr} {l : Ledg} (h : LCg.Off1 D l) : ∀ q ∈ l, q.1 ≠ D := by
  induction l with
  | nil => intro q hq; cases hq
  | cons p r ih =>
    intro q hq
    have h1 : (@Ne Nat p.1 D) ∧ LCg.Off1 D r := h
    rcases List.mem_cons.mp hq with e | hq
    · rw [e]; exact h1.1
    · exact ih h1.2 q hq
theorem phC (w : World) (next : Stretch w 8 AfterC) : Stretch w 5 AfterB := by
  unfold Stretch
  refine' atLaw_intro ?k6 ?_; (case k6 => k_is)
  refine' nextUse next ?k7 ?_; (case k7 => k_is)
  intro nx mean mg mb gh L fa cd s Q R m news CX F N G fin
  intro  hzz
  refine hideG ?_; intro HP back; obtain ⟨W, tw, hW, hc, rfl, e1, ⟨wd, tw0, w1, w2, e2⟩⟩ := hzz; refine back ?_; clear back HP
  obtain ⟨X', T', B'⟩ := CX
  dsimp only [List.drop] at nx ⊢
  (try k_fold)
  rw [cn2 e1 e2] at F
  walk1
  refine Assign_ListComp_S (L := L) rfl F (by with_unfolding_all rfl) (by with_unfolding_all rfl) (by decide) (by rfl) (by decide) (by rfl) (by rfl) (by rfl) ?_
  walk1
  refine ⟨W, tw, _, rfl, rfl, F, N, by rw [show W.cps.size = W.length from rfl, hW]; decide, ?_⟩
  intro g5
  refine comp_strI (fun (c : Nat) => (c : Int) - 96) ?_ ?_
  · intro c tk0 I oI C oC D ys m2 h7 tk7 E7 hk hC hx F7 N7
    clear F N
    have hc3 : c = 97 ∨ c = 98 ∨ c = 99 := by have := hc c hk; omega
    rcases hc3 with rfl | rfl | rfl
    all_goals k_steps
    all_goals first
      | (exfalso; with_reducible rename (Txt.find _ _ = -1) => hz; revert hz; decide +kernel)
      | (refine int_eq ?_; decide +kernel)
  · intro ys hy D8 h8 tk8 F8 N8 o8
    clear F N
    dsimp only
    have eL : LCg.lst ys = listOf ys.toArray ys.length := rfl
    rw [eL] at N8
    repeat' (first | (k_unfold; (try dsimp only)) | ((fail_if_success (with_reducible show wpAny _ _ (call (Value.ref 159) _) _ _ _)); first | walk1 | (dsimp only; walk1)))
    with_reducible rename Fr _ _ _ _ => F2
    with_reducible rename News _ _ _ _ => N2
    have hlv : (W.cps.toList.map fun (c : Nat) => (c : Int) - 96).length = 8 := by rw [List.length_map, Array.length_toList]; exact hW
    have hBv : ∀ d ∈ W.cps.toList.map (fun (c : Nat) => (c : Int) - 96), 1 ≤ d ∧ d ≤ 3 := fun d hd => by
      obtain ⟨c, hcm, rfl⟩ := List.mem_map.mp hd
      have := hc c hcm
      omega
    have hT0 : Tabs [(37, tabObj #[]), (44, tabObj #[])] := ⟨_, [], _, [], .none, .none, rfl⟩
    refine CallOk.use ((halves_ok w mean mg mb D8 ys _ ys.length wd tw0 (t := [(37, tabObj #[]), (44, tabObj #[])]) hT0 w1 w2 hy hlv hBv).frame [(119, tabObj #[])] (fun _ _ _ N => ?_)) B' F2 X' N2 T' rfl (by ktr_room) (by ktr_units) ?_
    · intro p hp hm
      have hp := List.mem_singleton.mp hp
      subst hp
      simp only [List.map_cons, List.map_nil, List.mem_cons, List.not_mem_nil, or_false] at hm
      rcases hm with hm | hm | hm
      · have so := sameObj N (p := (119, tabObj #[])) (q := (D8, listOf ys.toArray ys.length)) (by simp) (by simp) hm
        cases so
      · exact absurd (show (119 : Nat) = 37 from hm) (by decide)
      · exact absurd (show (119 : Nat) = 44 from hm) (by decide)
    intro r1 nw1 h1' tk1 F1 N1 K1 hr1
    refine hideG ?_; intro HP back; obtain ⟨nw2, rfl, hap, t', H, D, ht', hH, rfl, rfl⟩ := hr1; refine back ?_; clear back HP
    clear F2 N2
    dsimp only
    repeat' (first | (k_unfold; (try dsimp only)) | ((fail_if_success (with_reducible show wpAny _ _ (eval (Expr.ListComp _ _ _ _) _) _ _ _)); first | walk1 | (dsimp only; walk1)))
    with_reducible rename Fr _ _ _ _ => F3
    with_reducible rename News _ _ _ _ => N3
    replace N3 : News gh L _ ((D8, listOf ys.toArray ys.length) :: (D, listOf (hIts H).toArray 9) :: (119, tabObj #[]) :: (hLed H ++ t')) := newsSub N3 (fun p hp => by
      simp only [List.mem_cons, List.mem_append, List.cons_append, List.not_mem_nil, or_false] at hp ⊢
      rcases hp with h | h | h | h | h <;> simp [h])
    have a119 : ∀ p ∈ t', p.1 ≠ 119 := fun p hp => hap p (by simp [hp]) (119, tabObj #[]) (by simp)
    refine LCg.ListComp_U (F₀ := F3) (by rfl) (by decide) (by rfl) (by decide) (by rfl) ?_
    repeat' (first | (k_unfold; (try dsimp only)) | ((fail_if_success (with_reducible show LCg.CompSrc _ _ _ _ _ _ _ _ _ _ _ _ _ _)); first | walk1 | (dsimp only; walk1)))
    refine LCg.CompSrc.ledger rfl F3 N3 (.head _) (by rw [List.size_toArray, hy.length, hlv]; decide) ?_
    intro g6
    refine comp_mapI (fun v => 4 - v) hy (.inr ⟨_, .head _, rfl, _, rfl⟩) ?_ ?_
    · intro k tk0 I oI C oC D0 ys0 m2 h7 tk7 E7 hk hC hx F7 N7
      clear F3 N3
      k_steps
    intro ys2 hy2 D9 h9 tk9 F9 N9 o9
    clear F3 N3
    have eL2 : LCg.lst ys2 = listOf ys2.toArray ys2.length := rfl
    rw [eL2] at N9
    repeat' (first | (k_unfold; (try dsimp only)) | ((fail_if_success (with_reducible show wpAny _ _ (call (Value.ref 159) _) _ _ _)); first | walk1 | (dsimp only; walk1)))
    with_reducible rename Fr _ _ _ _ => F4
    with_reducible rename News _ _ _ _ => N4
    have hlv2 : ((W.cps.toList.map fun (c : Nat) => (c : Int) - 96).map fun v => 4 - v).length = 8 := by rw [List.length_map]; exact hlv
    have hBv2 : ∀ d ∈ (W.cps.toList.map fun (c : Nat) => (c : Int) - 96).map (fun v => 4 - v), 1 ≤ d ∧ d ≤ 3 := fun d hd => by
      obtain ⟨c, hcm, rfl⟩ := List.mem_map.mp hd
      have := hBv c hcm
      omega
    refine CallOk.use ((halves_ok w mean mg mb D9 ys2 _ ys2.length wd tw0 ht' w1 w2 hy2 hlv2 hBv2).frame ((119, tabObj #[]) :: (D, listOf (hIts H).toArray 9) :: hLed H) (fun _ _ _ N => ?_)) B' F4 X' (newsSub N4 ?_) T' rfl (by ktr_room) (by ktr_units) ?_
    · intro p hp
      have off := off1_mem o9
      rcases List.mem_cons.mp hp with rfl | hp
      · intro hm
        simp only [List.map_cons, List.mem_cons] at hm
        rcases hm with hm | hm
        · exact off (119, tabObj #[]) (by simp) hm
        · obtain ⟨q, hq, e⟩ := List.mem_map.mp hm
          exact a119 q hq e
      · refine dis_cons ht' (rest := (D, listOf (hIts H).toArray 9) :: hLed H) (fun q hq => off q ?_) ⟨(fun vs e => by cases e), hLed_noF H⟩ (newsSub N ?_) p hp
        · simp only [List.mem_cons, List.mem_append] at hq ⊢
          rcases hq with h | h <;> simp [h]
        · intro q hq
          simp only [List.mem_cons, List.mem_append, List.cons_append] at hq ⊢
          rcases hq with h | h | h | h <;> simp [h]
    · intro p hp
      simp only [List.mem_cons, List.mem_append, List.cons_append] at hp ⊢
      rcases hp with h | h | h | h | h <;> simp [h]
    intro r1 nw1 h1' tk1 F1 N1 K1 hr1
    refine hideG ?_; intro HP back; obtain ⟨nw2, rfl, hap2, t2, H2, D2, ht2, hH2, rfl, rfl⟩ := hr1; refine back ?_; clear back HP
    clear F4 N4
    dsimp only
    repeat' (first | (k_unfold; (try dsimp only)) | ((fail_if_success (with_reducible show wpAny _ _ (execs (_ :: _) _) _ _ _)); first | walk1 | (dsimp only; walk1)))
    with_reducible rename Fr _ _ _ _ => F5
    with_reducible rename News _ _ _ _ => N5
    have a119' : ∀ p ∈ t2, p.1 ≠ 119 := fun p hp => hap2 p (by simp [hp]) (119, tabObj #[]) (by simp)
    obtain ⟨m5, hm5, F6⟩ := frMap F5
    clear F5
    refine nx mean mg mb gh L fa cd _ Q R m5 ((D, listOf (hIts H).toArray 9) :: (D2, listOf (hIts H2).toArray 9) :: (119, tabObj #[]) :: (hLed H ++ (hLed H2 ++ t2))) ⟨X', T', B'⟩ F6 (newsSub N5 ?_) G (fin.to _ _ _) ⟨W, tw, H, H2, D, D2, t2, hW, hc, by rw [hm5]; rfl, ⟨wd, tw0, w1, w2, by rw [hm5]; rfl, hH, hH2⟩, ht2, a119', by rw [hm5]; rfl, by rw [hm5]; rfl, rfl⟩
    intro p hp
    simp only [List.mem_cons, List.mem_append, List.cons_append] at hp ⊢
    rcases hp with h | h | h | h | h | h <;> simp [h]
end Mine
end
-- LD
section
open PySem PySem.W PyProof.Rows PySem.Calls PySem.Spec
namespace Mine
theorem off10 : True := by
  w_top off
  k_with_none
  exact trivial
set_option maxRecDepth 100000
set_option maxHeartbeats 4000000
theorem fill33 : (Challenge.rw_re0104_01, hd.heap_1) = (Challenge.rw_re0104_01, hd.heap_1) := by
  k_fill
  rfl
theorem lineLD1 : True := by
  k_with "binaryOp LShift int int" => (refine lshift_int (by assumption) (by assumption) ?_)
  exact trivial
theorem fdiv_le_self {a b : Int} (ha : 0 ≤ a) (hb : 0 < b) : 0 ≤ a.fdiv b ∧ a.fdiv b ≤ a := by
  rw [Int.fdiv_eq_ediv_of_nonneg _ (Int.le_of_lt hb)]
  exact ⟨Int.ediv_nonneg ha (Int.le_of_lt hb), Int.ediv_le_self _ ha⟩
theorem half_at {H : List Half} {N : Int} {wd : Nat} (hH : H.map (fun p => (p.x, p.y)) = (List.range 9).map (hv N wd)) (k : Nat) (hk : k < 9) : ∃ a tx ty, H[k]? = some ⟨a, (hv N wd k).1, tx, (hv N wd k).2, ty⟩ := by
  have hl : H.length = 9 := by simpa using congrArg List.length hH
  have e : (H.map (fun p => (p.x, p.y)))[k]? = some (hv N wd k) := by rw [hH]; simp [hk]
  rw [List.getElem?_map, List.getElem?_eq_getElem (by omega)] at e
  rw [List.getElem?_eq_getElem (by omega)]
  have e := Option.some.inj e
  exact ⟨H[k].at_, H[k].tx, H[k].ty, by rw [← e]⟩
theorem half_led {H : List Half} {k : Nat} {q : Half} (h : H[k]? = some q) : (hIts H).toArray[k]? = some (Value.ref q.at_) ∧ (q.at_, tup2 (.int q.x q.tx) (.int q.y q.ty)) ∈ hLed H := by
  refine ⟨by simp [h], List.mem_map.mpr ⟨q, List.mem_of_getElem? h, rfl⟩⟩
theorem perG_go {N : Int} {wd n p : Nat} (hn : p + n = 8) (hp : p < 8) (h : (hv N wd (8 - p)).1 * 2 ^ (wd * p) ≠ (hv N wd p).2) : perG N wd n p = perG N wd (n - 1) (p + 1) := by
  obtain ⟨k, rfl⟩ : ∃ k, n = k + 1 := ⟨n - 1, by omega⟩
  simp only [perG, if_pos h, Nat.add_sub_cancel]
theorem perG_stop {N : Int} {wd n p : Nat} (hn : p + n = 8) (hp : p < 8) (h : (hv N wd (8 - p)).1 * 2 ^ (wd * p) = (hv N wd p).2) : perG N wd n p = p := by
  obtain ⟨k, rfl⟩ : ∃ k, n = k + 1 := ⟨n - 1, by omega⟩
  simp only [perG, if_neg (fun q : _ ≠ _ => q h)]
theorem phD (w : World) (next : Stretch w 10 AfterD) : Stretch w 8 AfterC := by
  unfold Stretch
  refine' atLaw_intro ?k6 ?_; (case k6 => k_is)
  refine' nextUse next ?k7 ?_; (case k7 => k_is)
  intro nx mean mg mb gh L fa cd s Q R m news CX F N G fin
  intro  hzz
  refine hideG ?_; intro HP back; obtain ⟨W, tw, H, H2, D, D2, t, hW, hc, e1, ⟨wd, tw0, w1, w2, e2, hH, hH2⟩, ht, a119, e3, e4, hnews⟩ := hzz; refine back ?_; clear back HP
  obtain ⟨X', T', B'⟩ := CX
  dsimp only [List.drop] at nx ⊢
  (try k_fold)
  rw [cn4 e1 e2 e3 e4] at F
  repeat' (first | (k_unfold; (try dsimp only)) | ((fail_if_success (with_reducible show wpAny _ _ (exec (Stmt.While _ _ _ _) _) _ _ _)); first | walk1 | (dsimp only; walk1)))
  with_reducible rename Fr _ _ _ _ => F2
  with_reducible rename News _ _ _ _ => N2
  refine While_inv (n₀ := 7) (fun n m1 nw => nw = news ∧ ∃ p tp, 1 ≤ p ∧ p + n = 8 ∧ m1 (Str.ofString "period") = some (.int ((p : Nat) : Int) tp) ∧ m1 (Str.ofString "word") = some (.str W tw) ∧ m1 (Str.ofString "width") = some (.int (wd : Int) tw0) ∧ m1 (Str.ofString "halves") = some (.ref D) ∧ m1 (Str.ofString "turned") = some (.ref D2) ∧ perG (numOf wd W) wd 7 1 = perG (numOf wd W) wd n p) F2 N2 ⟨rfl, 1, _, by decide, rfl, rfl, rfl, rfl, rfl, rfl, rfl⟩ ?_
  intro n m1 nw h1 tk1 F1 N1 hzz
  refine hideG ?_; intro HP back; obtain ⟨rfl, p, tp, hp, hpn, f1, f2, f3, f4, f5, hper⟩ := hzz; refine back ?_; clear back HP
  rw [cn5 f1 f2 f3 f4 f5] at F1
  clear F2 N2
  subst hnews
  have hB8 : ∀ d ∈ (valsOf W).reverse, 1 ≤ d ∧ d ≤ 3 := fun d hd => by
    obtain ⟨c, hcm, rfl⟩ := List.mem_map.mp (List.mem_reverse.mp hd)
    have := hc c hcm
    omega
  have hl8 : (valsOf W).reverse.length = 8 := by unfold valsOf; rw [List.length_reverse, List.length_map, Array.length_toList]; exact hW
  obtain ⟨hN0, hNb⟩ := num_bits w1 hl8 hB8
  have hp8 : p ≤ 8 := by omega
  refine hideG ?_; intro HP back; obtain ⟨a8, tx8, ty8, h8⟩ := half_at hH (8 - p) (by omega); refine back ?_; clear back HP
  refine hideG ?_; intro HP back; obtain ⟨a9, tx9, ty9, h9⟩ := half_at hH p (by omega); refine back ?_; clear back HP
  obtain ⟨g8, l8⟩ := half_led h8
  obtain ⟨g9, l9⟩ := half_led h9
  have hsub : wd * (8 - p) ≤ wd * 8 := Nat.mul_le_mul (Nat.le_refl _) (by omega)
  obtain ⟨hA0, hAb⟩ := shl_bits (b := wd * (8 - p)) hN0 hNb
  obtain ⟨hx0, hx1⟩ := fdiv_le_self (b := 2 ^ (wd * 8)) hA0 (Int.pow_pos (by decide))
  have hwp : wd * p ≤ 12 * 8 := Nat.mul_le_mul w2 hp8
  have hs0 : 0 ≤ (wd : Int) * (p : Int) := by rw [← Int.natCast_mul]; exact Int.natCast_nonneg _
  have hw8 : wd * 8 ≤ 96 := by omega
  have hxb : Builtin.Int.intBits (hv (numOf wd W) wd (8 - p)).1 ≤ 300 := by
    refine bits_of_lt hx0 (Int.lt_of_le_of_lt hx1 (Int.lt_of_lt_of_le (lt_pow_bits hA0) (pow_le_pow2 ?_)))
    omega
  have hs1 : ((Builtin.Int.intBits (hv (numOf wd W) wd (8 - p)).1 : Nat) : Int) + (wd : Int) * (p : Int) ≤ 2 ^ 27 := by rw [← Int.natCast_mul]; omega
  have hsh : ((wd : Int) * (p : Int)).toNat = wd * p := by rw [← Int.natCast_mul, Int.toNat_natCast]
  repeat' (first | (k_unfold; (try dsimp only)) | ((fail_if_success (with_reducible show wpAny _ _ (subscriptTail _ _ _ _) _ _ _)); (fail_if_success (with_reducible show wpAny _ _ (execs (Stmt.Assign _ _ _ :: Stmt.For _ _ _ _ _ :: _) _) _ _ _)); first | walk1 | (dsimp only; walk1)))
  · refine PyProof.Rows.item_list (items := (hIts H).toArray) ⟨_, (N1 _ (.head _)).1, rfl, _, rfl⟩ (by omega) (by omega) (x := .ref a8) (by rw [show (8 - (p : Int)).toNat = 8 - p by omega]; exact g8) ?_
    repeat' (first | (k_unfold; (try dsimp only)) | ((fail_if_success (with_reducible show wpAny _ _ (subscriptTail _ _ _ _) _ _ _)); (fail_if_success (with_reducible show wpAny _ _ (execs (Stmt.Assign _ _ _ :: Stmt.For _ _ _ _ _ :: _) _) _ _ _)); first | walk1 | (dsimp only; walk1)))
    refine item_tupleT (l := [.int (hv (numOf wd W) wd (8 - p)).1 tx8, .int (hv (numOf wd W) wd (8 - p)).2 ty8]) ⟨_, (N1 _ (.tail _ (.tail _ (.tail _ (List.mem_append_left _ l8))))).1, rfl, _, rfl⟩ (by decide) (by decide) (j := 0) (by rfl) rfl ?_
    repeat' (first | (k_unfold; (try dsimp only)) | ((fail_if_success (with_reducible show wpAny _ _ (subscriptTail _ _ _ _) _ _ _)); (fail_if_success (with_reducible show wpAny _ _ (execs (Stmt.Assign _ _ _ :: Stmt.For _ _ _ _ _ :: _) _) _ _ _)); first | walk1 | (dsimp only; walk1)))
    refine PyProof.Rows.item_list (items := (hIts H).toArray) ⟨_, (N1 _ (.head _)).1, rfl, _, rfl⟩ (by omega) (by omega) (x := .ref a9) (by rw [Int.toNat_natCast]; exact g9) ?_
    repeat' (first | (k_unfold; (try dsimp only)) | ((fail_if_success (with_reducible show wpAny _ _ (subscriptTail _ _ _ _) _ _ _)); (fail_if_success (with_reducible show wpAny _ _ (execs (Stmt.Assign _ _ _ :: Stmt.For _ _ _ _ _ :: _) _) _ _ _)); first | walk1 | (dsimp only; walk1)))
    refine item_tupleT (l := [.int (hv (numOf wd W) wd p).1 tx9, .int (hv (numOf wd W) wd p).2 ty9]) ⟨_, (N1 _ (.tail _ (.tail _ (.tail _ (List.mem_append_left _ l9))))).1, rfl, _, rfl⟩ (by decide) (by decide) (j := 1) (by rfl) rfl ?_
    repeat' (first | (k_unfold; (try dsimp only)) | ((fail_if_success (with_reducible show wpAny _ _ (subscriptTail _ _ _ _) _ _ _)); (fail_if_success (with_reducible show wpAny _ _ (execs (Stmt.Assign _ _ _ :: Stmt.For _ _ _ _ _ :: _) _) _ _ _)); first | walk1 | (dsimp only; walk1)))
    · with_reducible rename Fr _ _ _ _ => F3
      with_reducible rename News _ _ _ _ => N3
      with_reducible rename (_ * _ ≠ _) => hne
      with_reducible rename ((p : Int) < 8) => hlt
      rw [hsh] at hne
      have hlt' : p < 8 := by omega
      exact WhileStep.intro F3 N3 (n' := n - 1) (by omega) ⟨rfl, p + 1, _, by omega, by omega, rfl, rfl, rfl, rfl, rfl, hper.trans (perG_go hpn hlt' hne)⟩
    · with_reducible rename (_ * _ = _) => heq
      with_reducible rename ((p : Int) < 8) => hlt
      rw [hsh] at heq
      have hlt' : p < 8 := by omega
      have hpp := perG_stop hpn hlt' heq
      refine nx mean mg mb gh L fa cd _ Q R _ _ ⟨X', T', B'⟩ F1 N1 G (fin.to _ _ _) ⟨W, tw, H, H2, D, D2, t, wd, tp, hW, hc, rfl, w1, w2, by rw [hper, hpp]; rfl, hH, hH2, ht, a119, rfl, rfl, rfl⟩
  · with_reducible rename (¬ (p : Int) < 8) => hge
    have h8p : p = 8 := by omega
    have hn0 : n = 0 := by omega
    subst hn0
    refine nx mean mg mb gh L fa cd _ Q R _ _ ⟨X', T', B'⟩ F1 N1 G (fin.to _ _ _) ⟨W, tw, H, H2, D, D2, t, wd, tp, hW, hc, rfl, w1, w2, by rw [hper]; rfl, hH, hH2, ht, a119, rfl, rfl, rfl⟩
end Mine
end
-- CAcc
section
open PySem PySem.W PyProof.Rows PySem.Calls
set_option maxRecDepth 100000
set_option maxHeartbeats 8000000
namespace Mine
theorem off11 : True := by
  w_top off
  k_with_none
  exact trivial
theorem fill10 : (Challenge.rw_re0104_01, hd.heap_1) = (Challenge.rw_re0104_01, hd.heap_1) := by
  k_fill
  rfl
/-- a row: an instance of the list's subclass -/
abbrev accObj (dx : Addr) (its : Array Value) (n : Nat) : Obj := { cls := .ref 150, dict := some dx, data := .seq its n }
section
variable {prog : Program} {w : World} {A : Around} {E : Value → Shared → Prop} {s : Shared} {K : Frag} {C x : Addr} {ox : Obj} {od : Option Obj} {name : Str}
theorem check_any {i owner n : String} {self : Value} {rest : List Value} {kw : List (Str × Value)} {Q : Unit → Shared → Prop}
    (hk : builtinKind i = some .slot ∨ builtinKind i = some .method) (hs : splitId i = some (owner, n)) (hi : Looks (model prog w) s.heap (isInstance self (.type owner)) true) (ha : argsOk i ⟨self :: rest, kw⟩) (q : Q () s) :
    wpAny (model prog w) A (checkBuiltinCall i ⟨self :: rest, kw⟩) Q E s := by
  rcases hk with hk | hk
  · exact check_slot hk hs hi ha q
  · simp only [checkBuiltinCall, hk, hs]
    refine wpAny_bind (hi.here ?_)
    simp only [Bool.not_true, Bool.false_eq_true, if_false]
    cases hsig : Manifest.signature? i with
    | none => exact wpAny_pure q
    | some sig =>
      simp only [argsOk, hsig] at ha
      have h2 : Bind.checkArgs i sig ⟨self :: rest, kw⟩ = pure () := ha
      show wpAny (model prog w) A (Bind.checkArgs i sig ⟨self :: rest, kw⟩) Q E s
      rw [h2]; exact wpAny_pure q
theorem call_sub {id owner n : String} {b : Builtin} {self : Value} {rest : List Value} {Q : Value → Shared → Prop} (hk : builtinKind id = some .slot ∨ builtinKind id = some .method) (hs : splitId id = some (owner, n)) (hp : plainId id = true) (hb : entryFor table id = some b)
    (hi : Looks (model prog w) s.heap (isInstance self (.type owner)) true) (ha : argsOk id ⟨self :: rest, []⟩) (hc : wpAny (model prog w) A.in1 (b ⟨self :: rest, []⟩) (fun fin s' => ∃ v, fin = .done (.ret v) ∧ Q v s') E s) :
    wpAny (model prog w) A (call (.builtin id) (self :: rest)) Q E s := by
  refine wpAny_call (codeAny_call_builtin hp hb (check_any hk hs hi ha (wpAny_mono hc (fun fin s' h' => ?_) fun _ _ h' => h')))
  obtain ⟨v, rfl, hv⟩ := h'; exact hv
theorem method_bi {f : String} {pl : Sem Bool} {Q : Value × List Value → Shared → Prop} (X : K.In s.heap) (I : InstAt s.heap x ox C od) (hga : findIn K (.ref C) "__getattribute__" = some (some (.builtin "list.__getattribute__"))) (hcan : (Manifest.canonical "list.__getattribute__" != "object.__getattribute__") = false) (hk : findIn K (.ref C) "__getattr__" = some none)
    (hf : findIn K (.ref C) name = some (some (.builtin f))) (ht : typeOf (.builtin f) = pure (.type "method_descriptor")) (hs : shadowIn od name = some false) (h : Q (.builtin f, [.ref x]) s) :
    wpAny (model prog w) A (getMethod (.ref x) name pl) Q E s := by
  unfold getMethod specialOf
  refine wpAny_bind (wpAny_bind (I.type.here ((looks_findIn X hga).here ?_)))
  dsimp only
  rw [hcan, if_neg (by decide)]
  refine wpAny_bind (wpAny_bind (I.type.here ((looks_findIn X hk).here ?_)))
  refine wpAny_bind (wpAny_bind (I.type.here ((looks_findIn X hf).here (wpAny_bind (wpAny_of_eq ht ?_)))))
  rw [if_neg (by decide +kernel)]
  refine wpAny_bind (wpAny_loadPart I.at_ ?_)
  have hd := I.dict
  cases e : ox.dict with
  | none => exact wpAny_bind (wpAny_rule (wpAny_pure h))
  | some dx =>
    cases od with
    | none => rw [e] at hd; exact hd.elim
    | some o =>
      rw [e] at hd
      obtain ⟨r, a, b⟩ := Option.map_eq_some_iff.mp hs
      refine wpAny_bind (wpAny_bind (wpAny_loadPart hd ?_))
      rw [nsLook_of a]
      refine wpAny_pure ?_
      rw [b]
      exact wpAny_bind (wpAny_rule (wpAny_pure h))
end
theorem k_append (P : Params) : findIn (hd.heap_1 P) (.ref 150) "append" = some (some (.builtin "list.append")) := by kernel_rfl
theorem k_ga (P : Params) : findIn (hd.heap_1 P) (.ref 150) "__getattribute__" = some (some (.builtin "list.__getattribute__")) := by kernel_rfl
theorem k_gat (P : Params) : findIn (hd.heap_1 P) (.ref 150) "__getattr__" = some none := by kernel_rfl
theorem k_isl (P : Params) : mroIn (hd.heap_1 P) 150 (.type "list") = some true := by kernel_rfl
theorem canon_lga : (Manifest.canonical "list.__getattribute__" != "object.__getattribute__") = false := by decide +kernel
section
variable {w : World} {A : Around} {E : Value → Shared → Prop} {s : Shared} {h₀ : Heap} {L x dx : Addr} {m : Str → Option Value} {news news' : Ledg} {its : Array Value} {n : Nat}
theorem accInst {h : Heap} {o : Obj} (h1 : h.get? x = some (accObj dx its n)) (h2 : h.get? dx = some o) : InstAt h x (accObj dx its n) 150 (some o) := ⟨h1, rfl, rfl, h2⟩
theorem acc_isList {h : Heap} {o : Obj} (X : (hd.heap_1 w.params).In h) (h1 : h.get? x = some (accObj dx its n)) (h2 : h.get? dx = some o) : Looks (model Challenge.rw_re0104_01.row.prog w) h (isInstance (.ref x) (.type "list")) true :=
  (accInst h1 h2).type.andThen (looks_mroIn X (k_isl _))
theorem acc_append {o : Obj} {v : Value} {Q : Value → Shared → Prop} (F : Fr h₀ L s.heap m) (X : (hd.heap_1 w.params).In h₀) (N : News h₀ L s.heap news) (U : Upd x (accObj dx its n) (accObj dx (its.push v) (n + 1)) news news') (hdx : (dx, o) ∈ news)
    (h : ∀ h', Fr h₀ L h' m → News h₀ L h' news' → Q .none { s with heap := h' }) (hsz : its.size ≤ sizeLine) : wpAny (model Challenge.rw_re0104_01.row.prog w) A (call (.builtin "list.append") [.ref x, v]) Q E s := by
  obtain ⟨pre, post, rfl, rfl, a, b⟩ := U.split
  have z := N (x, accObj dx its n) (List.mem_append.mpr (.inr (.head _)))
  refine call_sub (owner := "list") (n := "append") (.inr (by decide +kernel)) (by decide +kernel) (by decide +kernel) PySem.F.entry_list_append (acc_isList (X.keeps F.keep) z.1 (N _ hdx).1) (PySem.F.args_list_append_2 _ _) ?_
  show wpAny _ _ (updateSeq x (·.push v) >>= fun _ => ret .none) _ _ s
  refine wpAny_bind (wpAny_updateSeq z.1 rfl (wpAny_pure ⟨.none, rfl, h _ (F.change (Heap.SameBut.update ..) z.2.1 z.2.2) ?_⟩))
  refine news_set N a b (Heap.SameBut.update ..) ?_
  have e : Obj.mapSeq (·.push v) (accObj dx its n) = accObj dx (its.push v) (n + 1) := by simp [Obj.mapSeq]
  rw [← e]
  exact Heap.get?_update_self _ z.1 (by rw [e]; rfl)
end
theorem lineCAcc1 : True := by
  k_with "getMethod ref" => (k_here; (with_reducible show wpAny _ _ (getMethod (Value.ref _) (PySem.Str.ofString "append") _) _ _ _); k_dflt (refine' method_bi ?zx ?zi (k_ga _) canon_lga (k_gat _) (k_append _) ?zt ?zs ?_; (case zx => k_in); (case zi => exact accInst (News.get (by k_asm) (by k_mem)) (News.get (by k_asm) (by k_mem))); (case zt => exact type_list_append); (case zs => first | rfl | assumption); k_whole))
  exact trivial
theorem lineCAcc2 : True := by
  k_with "call builtin:list.append" => (k_here; (with_reducible show wpAny _ _ (call (Value.builtin _) [Value.ref _, _]) _ _ _); k_dflt (refine' acc_append ?zF ?zX ?zN ?zU ?zd ?_ ?zz; (case zF => k_asm); (case zX => k_asm); (case zN => k_asm); (case zU => k_upd); (case zd => k_mem); (case zz => first | assumption | (rw [List.size_toArray]; assumption)); k_whole); intro kzh kzF kzN)
  exact trivial
theorem push_ok (w : World) (mean : ExcName → Option Value) (mg mb : Str → Option Value) (x dx : Addr) (its : List Value) (n : Nat) (dob : Obj) (a b : Str) (ta tb : Tok) (hdx : dx ≠ x) (hsh : shadowIn (some dob) "append" = some false) (hsz : its.length ≤ sizeLine) :
    CallOk w mean mg mb [(x, accObj dx its.toArray n), (dx, dob)] 3 94 [.ref x, .str a ta, .str b tb] (fun r nw => ∃ q, r = .none ∧ nw = [(x, accObj dx (its ++ [Value.ref q]).toArray (n + 1)), (dx, dob), (q, tup2 (.str a ta) (.str b tb))]) := by
  unfold CallOk
  intro dp un gd cn cs a' ccd cl outer A₀ base h₀ L m s Q E B F X N T hk hdp hun hret
  refine wpAny_call ?_
  (refine' enter_K ?k1 ?k2 ?k3 ?k4 ?k5 ?kA ?kF ?kK ?k6 ?k7 ?k8 ?k9 ?kB ?_ ?c2 ?c3 ?c4 ?c5; (case kA => exact rfl); (case kF => exact rfl); (case kK => assumption); (case k1 => k_asm); (case k2 => k_asm); (case k3 => k_asm); (case k4 => k_asm); (case k5 => k_asm); (case k6 => k_is); (case k7 => k_is); (case k8 => first | exact room0 hdp | ktr_room); (case k9 => exact BindsTo.of_eq rfl); (case c5 => decide); (case kB => exact locs rfl); (case c2 => exact rfl); (case c3 => exact rfl); (case c4 => exact rfl); k_whole; intro g L' h' G FG F' N' B' X' T' l1; (try dsimp only); (try k_fold))
  k_steps
  with_reducible rename Fr h₀ _ _ _ => Fe
  with_reducible rename News h₀ _ _ _ => Ne
  with_reducible rename News g _ _ _ => Ng
  try simp only [List.push_toArray] at Ne Ng
  obtain ⟨q, hq⟩ := headOf Ne
  subst hq
  refine hret _ [(x, accObj dx (its ++ [Value.ref q]).toArray (n + 1)), (dx, dob), (q, tup2 (.str a ta) (.str b tb))] _ _ Fe (newsSub Ne (by kcj_all)) (G.back (by assumption) (newsSub Ng (by kcj_all))) ⟨q, rfl, rfl⟩
end Mine
end
-- CSup
section
open PySem PySem.W PyProof.Rows PySem.Calls
set_option maxRecDepth 100000
set_option maxHeartbeats 4000000
namespace Mine
theorem slot_wd_get : Slot "wrapper_descriptor" "__get__" "wrapper_descriptor.__get__" :=
  .of (owner := "wrapper_descriptor") (n := "__get__") (by rw [typeLookup_type, builtinLookup_eq_fast]; kernel_rfl) (by decide +kernel) (by decide +kernel) (by decide +kernel)
    (by first | exact .inl (by decide +kernel) | exact .inr (by decide +kernel)) (by rw [isSubtype_type]; kernel_rfl)
theorem slot_md_get : Slot "method_descriptor" "__get__" "method_descriptor.__get__" :=
  .of (owner := "method_descriptor") (n := "__get__") (by rw [typeLookup_type, builtinLookup_eq_fast]; kernel_rfl) (by decide +kernel) (by decide +kernel) (by decide +kernel)
    (by first | exact .inl (by decide +kernel) | exact .inr (by decide +kernel)) (by rw [isSubtype_type]; kernel_rfl)
theorem entry_wd_get : entryFor table "wrapper_descriptor.__get__" = some Builtin.«wrapper_descriptor.__get__» := entryFor_of_tree (by kernel_rfl)
theorem entry_md_get : entryFor table "method_descriptor.__get__" = some Builtin.«method_descriptor.__get__» := entryFor_of_tree (by kernel_rfl)
theorem args_wd_get (a b c : Value) : argsOk "wrapper_descriptor.__get__" ⟨[a, b, c], []⟩ := by unfold argsOk; kernel_rfl
theorem args_md_get (a b c : Value) : argsOk "method_descriptor.__get__" ⟨[a, b, c], []⟩ := by unfold argsOk; kernel_rfl
theorem typ_len : typeOf (.builtin "list.__len__") = pure (.type "wrapper_descriptor") := by show builtinType _ = _; rw [builtinType_eq_fast]; kernel_rfl
theorem typ_init : typeOf (.builtin "list.__init__") = pure (.type "wrapper_descriptor") := by show builtinType _ = _; rw [builtinType_eq_fast]; kernel_rfl
theorem typ_pop : typeOf (.builtin "list.pop") = pure (.type "method_descriptor") := by show builtinType _ = _; rw [builtinType_eq_fast]; kernel_rfl
end Mine
end
-- CSupB
section
open PySem PySem.W PyProof.Rows PySem.Calls
set_option maxRecDepth 100000
set_option maxHeartbeats 4000000
namespace Mine
abbrev bObj (T f : String) (x : Addr) : Obj := { cls := .type T, data := .fields #[.builtin f, .ref x] }
theorem wd_len (x C : Addr) : ∃ bad : Sem Unit, Builtin.«wrapper_descriptor.__get__» ⟨[.builtin "list.__len__", .ref x, .ref C], []⟩ = ((isInstance (.ref x) (.type "list") >>= fun b => if !b then bad else pure ()) >>= fun _ => newFields "method-wrapper" [.builtin "list.__len__", .ref x] >>= fun r => ret r) := ⟨(do rule "descr.get.wrong-instance"; raiseError "TypeError" s!"descriptor '{("__len__" : Str).toString}' for '{← typeName (.type "list")}' objects doesn't apply to a '{← typeNameOf (.ref x)}' object"), by kernel_rfl⟩
theorem wd_init (x C : Addr) : ∃ bad : Sem Unit, Builtin.«wrapper_descriptor.__get__» ⟨[.builtin "list.__init__", .ref x, .ref C], []⟩ = ((isInstance (.ref x) (.type "list") >>= fun b => if !b then bad else pure ()) >>= fun _ => newFields "method-wrapper" [.builtin "list.__init__", .ref x] >>= fun r => ret r) := ⟨(do rule "descr.get.wrong-instance"; raiseError "TypeError" s!"descriptor '{("__init__" : Str).toString}' for '{← typeName (.type "list")}' objects doesn't apply to a '{← typeNameOf (.ref x)}' object"), by kernel_rfl⟩
theorem md_pop (x C : Addr) : ∃ bad : Sem Unit, Builtin.«method_descriptor.__get__» ⟨[.builtin "list.pop", .ref x, .ref C], []⟩ = ((isInstance (.ref x) (.type "list") >>= fun b => if !b then bad else pure ()) >>= fun _ => newFields "builtin_function_or_method" [.builtin "list.pop", .ref x] >>= fun r => ret r) := ⟨(do rule "descr.get.wrong-instance"; raiseError "TypeError" s!"descriptor '{("pop" : Str).toString}' for '{← typeName (.type "list")}' objects doesn't apply to a '{← typeNameOf (.ref x)}' object"), by kernel_rfl⟩
section
variable {prog : Program} {w : World} {M : Model} {A : Around} {E : Value → Shared → Prop} {h : Heap} {g : Array GenState} {d : Drawn} {t : Nat} {os : OsState}
theorem get_bound {x : Addr} {T f : String} {bad : Sem Unit} {Q : Fin → Shared → Prop} (hi : Looks M h (isInstance (.ref x) (.type "list")) true)
    (hq : Q (.done (.ret (.ref h.objs.size))) ⟨h.push (bObj T f x), g, d, t, os⟩) :
    wpAny M A ((isInstance (.ref x) (.type "list") >>= fun b => if !b then bad else pure ()) >>= fun _ => newFields T [.builtin f, .ref x] >>= fun r => ret r) Q E ⟨h, g, d, t, os⟩ := by
  refine wpAny_bind (wpAny_bind (Looks.at hi (wpAny_pure ?_)))
  unfold newFields
  refine wpAny_bind (wpAny_newObj_type ?_ (by size_fits))
  exact wpAny_pure hq
theorem sup_ga {so D x C : Addr} {f gid T BT : String} {G : Builtin} {l₀ l : List Value} {K : Frag} {name : Str} {tk : Tok} {Q : Fin → Shared → Prop}
    (hso : h.get? so = some { cls := .type "super", dict := none, data := .fields #[.ref D, .ref x, .ref C], slots := #[] }) (hno : Looks (model prog w) h (opaqueClassAbove (.ref C)) none)
    (hC : Looks (model prog w) h (mroOf (.ref C)) l₀) (hl : (l₀.dropWhile (· != .ref D)).drop 1 = l) (X : K.In h)
    (hf : alongIn K name l = some (some (.builtin f))) (ht : typeOf (.builtin f) = pure (.type T)) (hS : Slot T "__get__" gid) (hE : entryFor table gid = some G) (hA : argsOk gid ⟨[.builtin f, .ref x, .ref C], []⟩)
    (hG : ∃ bad : Sem Unit, G ⟨[.builtin f, .ref x, .ref C], []⟩ = ((isInstance (.ref x) (.type "list") >>= fun b => if !b then bad else pure ()) >>= fun _ => newFields BT [.builtin f, .ref x] >>= fun r => ret r))
    (hi : Looks (model prog w) h (isInstance (.ref x) (.type "list")) true) (hxC : x ≠ C) (hn : (name == ("__class__" : Str)) = false)
    (hq : Q (.done (.ret (.ref h.objs.size))) ⟨h.push (bObj BT f x), g, d, t, os⟩) :
    wpAny (model prog w) A (Builtin.«super.__getattribute__» ⟨[.ref so, .str name tk], []⟩) Q E ⟨h, g, d, t, os⟩ := by
  have hlk := hS.lookup
  obtain ⟨bad, hG⟩ := hG
  have hne : (Value.ref x == Value.ref C) = false := by simp [hxC]
  have hTf : (⟨h, g, d, t, os⟩ : Shared).TypeIs (.builtin f) T := ht
  have hdt : ({ cls := .type "super", dict := none, data := .fields #[.ref D, .ref x, .ref C], slots := #[] } : Obj).data = .fields #[.ref D, .ref x, .ref C] := rfl
  have f0 : (#[.ref D, .ref x, .ref C] : Array Value)[0]? = some (.ref D) := rfl
  have f1 : (#[.ref D, .ref x, .ref C] : Array Value)[1]? = some (.ref x) := rfl
  have f2 : (#[.ref D, .ref x, .ref C] : Array Value)[2]? = some (.ref C) := rfl
  unfold Builtin.«super.__getattribute__»
  repeat (first
    | (with_reducible refine wpAny_field hso hdt f0 ?_) | (with_reducible refine wpAny_field hso hdt f1 ?_) | (with_reducible refine wpAny_field hso hdt f2 ?_)
    | (with_reducible refine ks_wpAny_notOpaque hno ?_)
    | (with_reducible refine Looks.at hC ?_; rw [hl])
    | (refine ks_forIn_along X (fun _ _ => rfl) rfl ?_ hf)
    | (with_reducible refine wpAny_typeOf hTf ?_)
    | (with_reducible refine wpAny_call_entry hS hTf hE ?_ hA; rw [hG]; refine get_bound hi ?_)
    | (with_reducible refine ⟨_, rfl, ?_⟩)
    | (simp only [hn, hne, Bool.or_false, Bool.false_eq_true, if_false])
    | wp_step
    | dsimp only)
  all_goals exact hq
theorem sup_getMethod {so D x C : Addr} {f gid T BT : String} {G : Builtin} {l₀ l : List Value} {K : Frag} {name : Str} {pl : Sem Bool} {Q : Value × List Value → Shared → Prop}
    (hso : h.get? so = some { cls := .type "super", dict := none, data := .fields #[.ref D, .ref x, .ref C], slots := #[] }) (hno : Looks (model prog w) h (opaqueClassAbove (.ref C)) none)
    (hC : Looks (model prog w) h (mroOf (.ref C)) l₀) (hl : (l₀.dropWhile (· != .ref D)).drop 1 = l) (X : K.In h)
    (hf : alongIn K name l = some (some (.builtin f))) (ht : typeOf (.builtin f) = pure (.type T)) (hS : Slot T "__get__" gid) (hE : entryFor table gid = some G) (hA : argsOk gid ⟨[.builtin f, .ref x, .ref C], []⟩)
    (hG : ∃ bad : Sem Unit, G ⟨[.builtin f, .ref x, .ref C], []⟩ = ((isInstance (.ref x) (.type "list") >>= fun b => if !b then bad else pure ()) >>= fun _ => newFields BT [.builtin f, .ref x] >>= fun r => ret r))
    (hi : Looks (model prog w) h (isInstance (.ref x) (.type "list")) true) (hxC : x ≠ C) (hn : (name == ("__class__" : Str)) = false)
    (hq : Q (.ref h.objs.size, []) ⟨h.push (bObj BT f x), g, d, t + 1, os⟩) :
    wpAny (model prog w) A (getMethod (.ref so) name pl) Q E ⟨h, g, d, t, os⟩ := by
  have hlk := F.ks_slot_super_ga.lookup
  have hcan := F.ks_canon_super_ga
  have hT : ∀ t', (⟨h, g, d, t', os⟩ : Shared).TypeIs (.ref so) "super" := fun _ => ⟨_, hso, rfl⟩
  unfold getMethod
  refine wpAny_bind (wpAny_specialOf (hT _) hlk ?_)
  show wpAny _ _ (if (Manifest.canonical "super.__getattribute__" != "object.__getattribute__") = true then _ else _) _ _ _
  rw [if_pos hcan]
  unfold getAttr getAttrBy
  refine wpAny_bind (wpAny_bind (wpAny_mkText (wpAny_holding (wpAny_bind (wpAny_typeOf (hT _) (wpAny_bind (wpAny_of_eq hlk ?_)))))))
  show wpAny _ _ (getAttrByItsOwn (.ref so) (.str name t) (.type "super") (.builtin "super.__getattribute__") true false) _ _ _
  unfold getAttrByItsOwn hookBefore callGetattribute boundAndCalled
  refine wpAny_bind (wpAny_of_eq (show (if onTheHeap (.type "super") then typeLookup (.type "super") "__getattr__" else pure none) = pure none from rfl) ?_)
  refine wpAny_bind (wpAny_attempt (wpAny_holding ?_))
  show wpAny _ _ (bindSpecial (.builtin "super.__getattribute__") (.ref so) >>= _) _ _ _
  refine wpAny_bind (wpAny_of_eq (F.ks_slot_super_ga.bind _) ?_)
  refine wpAny_mono (Q := fun v s' => v = .ref h.objs.size ∧ s' = ⟨h.push (bObj BT f x), g, d, t + 1, os⟩) (E := fun _ _ => False)
    (wpAny_call_entry F.ks_slot_super_ga (hT _) F.ks_entry_super_ga (sup_ga hso hno hC hl X hf ht hS hE hA hG hi hxC hn ⟨_, rfl, rfl, rfl⟩) (F.ks_gaArgs_super _ _)) (fun v s' hv => ?_) fun _ _ z => z.elim
  obtain ⟨rfl, rfl⟩ := hv
  exact wpAny_pure (wpAny_pure hq)
/-- a call of a bound built-in of list -/
theorem call_bound {b x : Addr} {BT f : String} {Bi : Builtin} {rest : List Value} {Q : Value → Shared → Prop} (hb : h.get? b = some (bObj BT f x)) (hBT : (Value.type BT == .type "builtin_function_or_method" || Value.type BT == .type "method-wrapper") = true) (hBm : (Value.type BT != .type "method") = true)
    (hck : ∀ {Q' : Unit → Shared → Prop} {A' : Around} {E' : Value → Shared → Prop}, Q' () ⟨h, g, d, t, os⟩ → wpAny (model prog w) A' (checkBoundCall f ⟨.ref x :: rest, []⟩) Q' E' ⟨h, g, d, t, os⟩) (hp : plainId f = true) (hE : entryFor table f = some Bi)
    (hc : wpAny (model prog w) A.in1 (Bi ⟨.ref x :: rest, []⟩) (fun fin s' => ∃ v, fin = .done (.ret v) ∧ Q v s') E ⟨h, g, d, t, os⟩) :
    wpAny (model prog w) A (call (.ref b) rest) Q E ⟨h, g, d, t, os⟩ := by
  refine wpAny_call (codeAny_of_tree ?_)
  show wpAny _ A.in1 (callAny (.ref b) _) _ _ _
  unfold callAny
  refine wpAny_bind (wpAny_load hb ?_)
  have e : (({ cls := Value.type BT, data := .fields #[.builtin f, .ref x] } : Obj).cls == Value.type "method" || ({ cls := Value.type BT, data := .fields #[.builtin f, .ref x] } : Obj).cls == Value.type "builtin_function_or_method" || ({ cls := Value.type BT, data := .fields #[.builtin f, .ref x] } : Obj).cls == Value.type "method-wrapper") = true := by
    rw [Bool.or_assoc]; rw [show (_ || _) = true from hBT, Bool.or_true]
  show wpAny _ _ (if _ then _ else _) _ _ _
  rw [if_pos e]
  show wpAny _ _ (if (Value.type BT != .type "method") = true then _ else _) _ _ _
  rw [if_pos hBm]
  refine wpAny_bind (hck ?_)
  refine wpAny_pure ⟨plainId_quiet hp _, codeAny_builtin hE ?_⟩
  rw [Around.under_plainId hp _]
  exact wpAny_mono hc (fun fin s' ⟨v, e, q⟩ => by subst e; exact q) fun _ _ y => y
end
end Mine
end
-- CSupC
section
open PySem PySem.W PyProof.Rows PySem.Calls
set_option maxRecDepth 100000
set_option maxHeartbeats 4000000
namespace Mine
theorem fill11 : (Challenge.rw_re0104_01, hd.heap_1) = (Challenge.rw_re0104_01, hd.heap_1) := by
  k_fill
  rfl
theorem bound_len (x : Addr) : checkBoundCall "list.__len__" ⟨[.ref x], []⟩ = pure () := by kernel_rfl
theorem bound_init (x : Addr) : checkBoundCall "list.__init__" ⟨[.ref x], []⟩ = pure () := by kernel_rfl
theorem plain_len' : plainId "list.__len__" = true := by decide +kernel
theorem plain_init' : plainId "list.__init__" = true := by decide +kernel
theorem plain_pop' : plainId "list.pop" = true := by decide +kernel
theorem entry_linit : entryFor table "list.__init__" = some Builtin.«list.__init__» := entryFor_of_tree (by kernel_rfl)
section
variable {prog : Program} {w : World} {M : Model} {A : Around} {E : Value → Shared → Prop} {s : Shared} {env : Env} {pos : Pos} {q x : Addr} {T f : String} {first : List Value}
def BndAt (q : Addr) (T f : String) (x : Addr) (h : Heap) : Prop := h.get? q = some (bObj T f x)
theorem keeps_B (hT : (T = "method-wrapper" ∨ T = "builtin_function_or_method")) (h : Heap) (X : BndAt q T f x h) : ∃ k, (k = Keeper.frame ∨ k = Keeper.machine ∨ k = Keeper.boundFrame) ∧ Looks M h (keeperOf (.ref q)) k := by
  refine ⟨.machine, .inr (.inl rfl), (Looks.ld (part := none) X).andThen ?_⟩
  rcases hT with rfl | rfl <;> exact .now
theorem callWith_B0 {Q : Value → Shared → Prop} (hT : (T = "method-wrapper" ∨ T = "builtin_function_or_method")) (X : BndAt q T f x s.heap) (h : wpAny M A (call (.ref q) (first ++ [])) Q E s) : wpAny M A (callWith pos (.ref q) first (backTo pos (starEach [] env)) []) Q E s :=
  callWith_of rfl (keeps_B hT) (evalArgs_nil3 ⟨X, h⟩)
end
section
variable {w : World} {A : Around} {E : Value → Shared → Prop} {s : Shared} {h₀ : Heap} {L x dx so q : Addr} {m : Str → Option Value} {news news' : Ledg} {its : Array Value} {n : Nat}
theorem k_slen (P : Params) : ks_superIn (hd.heap_1 P) 150 150 "__len__" = some (some (.builtin "list.__len__")) := by kernel_rfl
theorem k_sinit (P : Params) : ks_superIn (hd.heap_1 P) 150 150 "__init__" = some (some (.builtin "list.__init__")) := by kernel_rfl
theorem k_spop (P : Params) : ks_superIn (hd.heap_1 P) 150 150 "pop" = some (some (.builtin "list.pop")) := by kernel_rfl
theorem k_third (P : Params) : nsIn (hd.heap_1 P) cStatics "thirdparty.any" = some none := by kernel_rfl
theorem k_noMod (P : Params) : mroIn (hd.heap_1 P) 150 (.type "module") = some false := by kernel_rfl
theorem sup_method {f gid T BT : String} {G : Builtin} {name : Str} {pl : Sem Bool} {o : Obj} {Q : Value × List Value → Shared → Prop} (F : Fr h₀ L s.heap m) (X₀ : (hd.heap_1 w.params).In h₀) (N : News h₀ L s.heap news) (hso : (so, ks_superObj 150 x 150) ∈ news) (hx : (x, accObj dx its n) ∈ news) (hdx : (dx, o) ∈ news)
    (hm : ks_superIn (hd.heap_1 w.params) 150 150 name = some (some (.builtin f))) (ht : typeOf (.builtin f) = pure (.type T)) (hS : Slot T "__get__" gid) (hE : entryFor table gid = some G) (hA : argsOk gid ⟨[.builtin f, .ref x, .ref 150], []⟩)
    (hG : ∃ bad : Sem Unit, G ⟨[.builtin f, .ref x, .ref 150], []⟩ = ((isInstance (.ref x) (.type "list") >>= fun b => if !b then bad else pure ()) >>= fun _ => newFields BT [.builtin f, .ref x] >>= fun r => ret r)) (hn : (name == ("__class__" : Str)) = false)
    (h : ∀ q h', Fr h₀ L h' m → News h₀ L h' ((q, bObj BT f x) :: news) → (∀ p ∈ news, p.1 < q) → Q (.ref q, []) { s with heap := h', toks := s.toks + 1 }) : wpAny (model Challenge.rw_re0104_01.row.prog w) A (getMethod (.ref so) name pl) Q E s := by
  have X : (hd.heap_1 w.params).In s.heap := X₀.keeps F.keep
  have I := accInst (N _ hx).1 (N _ hdx).1
  have hi := acc_isList (w := w) X (N _ hx).1 (N _ hdx).1
  obtain ⟨hh, g, d, t, os⟩ := s
  cases hc : clsIn (hd.heap_1 w.params) 150 with
  | none => unfold ks_superIn at hm; rw [hc] at hm; cases hm
  | some cd =>
    unfold ks_superIn at hm
    rw [hc] at hm
    refine sup_getMethod (N _ hso).1 (looks_opaque X (k_third _)) (l₀ := cd.mro) ?_ rfl X hm ht hS hE hA hG hi (ks_ne X I hc) hn ?_
    · exact fun A Q E s k q => wpAny_bind ((looks_clsIn X hc) A _ E s k (wpAny_pure q))
    · obtain ⟨F', N', l'⟩ := ks_newsPush (s := ⟨hh, g, d, t, os⟩) (o := bObj BT f x) F N rfl (Heap.get?_push_at rfl rfl) (fun b o e => Heap.get?_push_of_some _ e)
      exact h _ _ F' N' l'
theorem bcall_len {Q : Value → Shared → Prop} (N : News h₀ L s.heap news) (hq : (q, bObj "method-wrapper" "list.__len__" x) ∈ news) (hx : (x, accObj dx its n) ∈ news)
    (h : Q (.int its.size s.toks) { s with toks := s.toks + 1 }) : wpAny (model Challenge.rw_re0104_01.row.prog w) A (call (.ref q) []) Q E s := by
  obtain ⟨hh, g, d, t, os⟩ := s
  refine call_bound (N _ hq).1 (by decide +kernel) (by decide +kernel) (fun h' => wpAny_of_eq (bound_len x) h') plain_len' entry_list_len ?_
  show wpAny _ _ (do retInt (← seqSize x)) _ _ _
  unfold seqSize
  refine wpAny_bind (wpAny_bind (wpAny_load (N _ hx).1 ?_))
  exact wpAny_pure (wpAny_bind (wpAny_mkInt (wpAny_pure ⟨_, rfl, h⟩)))
theorem bcall_init {Q : Value → Shared → Prop} (F : Fr h₀ L s.heap m) (N : News h₀ L s.heap news) (hq : (q, bObj "method-wrapper" "list.__init__" x) ∈ news) (U : Upd x (accObj dx #[] 0) (accObj dx #[] 0) news news')
    (h : ∀ h', Fr h₀ L h' m → News h₀ L h' news' → Q .none { s with heap := h' }) : wpAny (model Challenge.rw_re0104_01.row.prog w) A (call (.ref q) []) Q E s := by
  obtain ⟨pre, post, rfl, rfl, a, b⟩ := U.split
  have z := N (x, accObj dx #[] 0) (List.mem_append.mpr (.inr (.head _)))
  obtain ⟨hh, g, d, t, os⟩ := s
  refine call_bound (N _ hq).1 (by decide +kernel) (by decide +kernel) (fun h' => wpAny_of_eq (bound_init x) h') plain_init' entry_linit ?_
  show wpAny _ _ (Builtin.List.listItems (.ref x) >>= fun old => updateSeq x (fun _ => #[]) >>= fun _ => letGo old.toList.reverse >>= fun _ => ret .none) _ _ _
  refine wpAny_bind (wpAny_listItems z.1 rfl (wpAny_bind (wpAny_updateSeq z.1 rfl (wpAny_bind (wpAny_letGo (wpAny_pure ⟨.none, rfl, h _ (F.change (Heap.SameBut.update ..) z.2.1 z.2.2) ?_⟩))))))
  refine news_set N a b (Heap.SameBut.update ..) ?_
  have e : Obj.mapSeq (fun _ => #[]) (accObj dx #[] 0) = accObj dx #[] 0 := by simp [Obj.mapSeq]
  rw [Heap.get?_update_self _ z.1 (by rw [e]; rfl), e]
noncomputable def sigPop : Manifest.Signature := (Manifest.signature? "list.pop").get (by decide +kernel)
theorem sig_pop : Manifest.signature? "list.pop" = some sigPop := by kernel_rfl
theorem args_pop (x : Addr) : Bind.checkArgs "list.pop" { sigPop with full := s!"{"_Accumulator"}.{Bind.lastOf "list.pop"}" } ⟨[.ref x], []⟩ = pure () := by kernel_rfl
theorem kind_pop : builtinKind "list.pop" = some .method := by decide +kernel
theorem vara_pop : Manifest.varargsMethods.contains "list.pop" = false := by decide +kernel
theorem k_ty (P : Params) : typeIn (hd.heap_1 P) (.ref 150) = some (.type "type") := by kernel_rfl
theorem k_cl (P : Params) : (clsIn (hd.heap_1 P) 150).map (·.qualname.toString) = some "_Accumulator" := by kernel_rfl
theorem checkPop {h : Heap} (X : (hd.heap_1 w.params).In h) (h1 : h.get? x = some (accObj dx its n)) {Q : Unit → Shared → Prop} {g d t os} (hq : Q () ⟨h, g, d, t, os⟩) : wpAny (model Challenge.rw_re0104_01.row.prog w) A (checkBoundCall "list.pop" ⟨[.ref x], []⟩) Q E ⟨h, g, d, t, os⟩ := by
  have ty : Looks (model Challenge.rw_re0104_01.row.prog w) h (typeOf (.ref x)) (.ref 150) := (Looks.ld h1).andThen .now
  have im : Looks (model Challenge.rw_re0104_01.row.prog w) h (isInstance (.ref x) (.type "module")) false := ty.andThen (looks_mroIn X (k_noMod _))
  have tt : Looks (model Challenge.rw_re0104_01.row.prog w) h (typeOf (.ref 150)) (.type "type") := looks_typeIn X (k_ty _)
  cases hc : clsIn (hd.heap_1 w.params) 150 with
  | none => have z := k_cl w.params; rw [hc] at z; cases z
  | some cd =>
    have hcd : Looks (model Challenge.rw_re0104_01.row.prog w) h (classData 150) cd := looks_clsIn X hc
    unfold checkBoundCall
    simp only [sig_pop, kind_pop]
    show wpAny _ _ (isInstance (.ref x) (.type "module") >>= _) _ _ _
    refine wpAny_bind (Looks.at im ?_)
    simp only [vara_pop, Bool.or_self, Bool.false_eq_true, if_false]
    refine wpAny_bind (ks_wpAny_isType_inst h1 (fun _ e => by cases e) ?_)
    simp only [Bool.false_eq_true, if_false]
    refine wpAny_bind (Looks.at ty ?_)
    dsimp only
    refine wpAny_bind (Looks.at hcd ?_)
    refine wpAny_bind (Looks.at tt ?_)
    have z := k_cl w.params
    rw [hc] at z
    rw [if_pos (by decide +kernel), show cd.qualname.toString = "_Accumulator" from Option.some.inj z, args_pop]
    exact wpAny_pure hq
theorem bcall_pop {p : List Value} {y : Value} {Q : Value → Shared → Prop} (F : Fr h₀ L s.heap m) (X : (hd.heap_1 w.params).In h₀) (N : News h₀ L s.heap news) (hq : (q, bObj "builtin_function_or_method" "list.pop" x) ∈ news) (U : Upd x (accObj dx (p ++ [y]).toArray n) (accObj dx p.toArray (n + 1)) news news') (hz : p.length < sizeLine)
    (h : ∀ h', Fr h₀ L h' m → News h₀ L h' news' → Q y { s with heap := h' }) : wpAny (model Challenge.rw_re0104_01.row.prog w) A (call (.ref q) []) Q E s := by
  obtain ⟨pre, post, rfl, rfl, a, b⟩ := U.split
  have z := N (x, accObj dx (p ++ [y]).toArray n) (List.mem_append.mpr (.inr (.head _)))
  obtain ⟨hh, g, d, t, os⟩ := s
  refine call_bound (N _ hq).1 (by decide +kernel) (by decide +kernel) (fun h' => checkPop (X.keeps F.keep) z.1 h') plain_pop' PySem.F.entry_list_pop ?_
  have hz' : (p ++ [y]).toArray.size ≤ sizeLine := by rw [List.size_toArray, List.length_append]; simp; omega
  have hk : (p ++ [y]).toArray.size - 1 = p.length := by rw [List.size_toArray, List.length_append]; rfl
  have hy : (p ++ [y]).toArray[(p ++ [y]).toArray.size - 1]? = some y := by rw [hk]; simp
  have hne : ¬ (p ++ [y]).toArray.isEmpty = true := by simp
  have hk2 : seqIndex? (-1) (p ++ [y]).toArray.size = some p.length := by
    rw [seqIndex_neg (by omega) (by rw [List.size_toArray, List.length_append]; simp; omega)]; congr 1; rw [List.size_toArray, List.length_append]; simp; omega
  have hy2 : (p ++ [y]).toArray[p.length]? = some y := by simp
  have hz2 : ((p ++ [y]).toArray.eraseIdxIfInBounds p.length).size ≤ sizeLine + 1 := by rw [kl_erase, List.append_nil, List.size_toArray]; omega
  unfold Builtin.«list.pop»
  show wpAny _ _ (Builtin.List.listItems (.ref x) >>= fun xs => _) _ _ _
  refine wpAny_bind (wpAny_listItems z.1 rfl ?_)
  dsimp only
  rw [if_neg hne]
  simp only [hk2, hy2, Option.bind_some, Option.map_some]
  refine wpAny_bind (m := Builtin.List.listUpdate _ _) (wpAny_updateSeq z.1 rfl (wpAny_pure ⟨y, rfl, h _ (F.change (Heap.SameBut.update ..) z.2.1 z.2.2) ?_⟩) hz' hz2)
  refine news_set N a b (Heap.SameBut.update ..) ?_
  have e : Obj.mapSeq (fun xs => xs.eraseIdxIfInBounds p.length) (accObj dx (p ++ [y]).toArray n) = accObj dx p.toArray (n + 1) := by
    simp only [Obj.mapSeq, kl_erase, List.append_nil]
    simp
  rw [Heap.get?_update_self _ z.1 (by rw [e]; rfl), e]
end
end Mine
end
open PySem PySem.W PyProof.Rows Mine in
local macro_rules | `(tactic| k_inst) => `(tactic| exact Mine.accInst (News.get (by k_asm) (by k_mem)) (News.get (by k_asm) (by k_mem)))
-- CSupD
section
open PySem PySem.W PyProof.Rows PySem.Calls
set_option maxRecDepth 100000
set_option maxHeartbeats 4000000
namespace Mine
theorem off12 : True := by
  w_top off
  k_with_none
  exact trivial
theorem fill12 : (Challenge.rw_re0104_01, hd.heap_1) = (Challenge.rw_re0104_01, hd.heap_1) := by
  k_fill
  rfl
section
variable {prog : Program} {w : World} {A₀ A : Around} {s : Shared} {base h₀ : Heap} {outer : List Env} {L : Addr} {m mg mb : Str → Option Value} {env : Env} {news : List (Addr × Obj)} {K : Frag} {p : Program} {loose : List Str} {mean : ExcName → Option Value}
  {R : Result → Shared → Prop} {name qual : Str} {params : Arguments} {body : List Stmt} {scope : Scope} {dV kV doc pm cdv ct oc : Value} {an od : Option Addr} {osl : Array (Option Value)} {f cc : Addr} {args : Args} {binds : List (Str × Value)}
theorem enterS_K (B : Below A₀ base outer h₀) (F : Fr h₀ L s.heap m) (X₀ : K.In h₀) (N : News h₀ L s.heap news) (T : Top p loose mean mg mb h₀) (hA : A.frames = some (env :: outer)) (hf : env.frame = some L) (hke : env.scope.kind = .function)
    (ho : K.lookup f = some ⟨oc, od, .func (ksFn name qual params body scope dV kV doc pm an cdv ct cc), osl⟩) (hcd : codeIn K cdv qual = true) (hroom : A.depth < recursionLimit)
    (hbind : BindsTo s (ksFn name qual params body scope dV kV doc pm an cdv ct cc) args binds) (hloc : ∀ y ∈ binds, scope.names.lookup y.1 = some .local)
    (h : ∀ g L' h₁, Grd news s.heap g → Fr h₀ L g m → Fr g L' h₁ (fun y => binds.reverse.lookup y) → News g L' h₁ news → Below A base (env :: outer) g → K.In g → Top p loose mean mg mb g → (∀ p ∈ news, p.1 < L') →
      _root_.PySem.wpAt (model prog w) (A.deeper (ksEnv qual scope L' f cdv cc)) (.func body (ksEnv qual scope L' f cdv cc)) (execs body (ksEnv qual scope L' f cdv cc))
        (fun fl s' => LeaveK h₀ L m g R (match fl with | .ret v => v | _ => .none) s')
        (fun e s' => wpAny (model prog w) (A.deeper (ksEnv qual scope L' f cdv cc)) (leaving (ksEnv qual scope L' f cdv cc) e) (fun _ s'' => R (.error e) s'') (fun e' s'' => R (.error e') s'') s')
        { s with heap := h₁, toks := s.toks + binds.length })
    (hcell : ∀ x ∈ scope.names, x.2 ≠ .cell) (hco : scope.isCoroutine = false) (hgen : scope.isGenerator = false) (hk : scope.kind = .function) : codeAny (model prog w) A (.call (.ref f) args) R s := by
  obtain ⟨FG, BG, st, lv⟩ := groundX (R := R) B F N hA hf hke
  refine ks_codeAny_call_defAt (fd := ksFn name qual params body scope dV kV doc pm an cdv ct cc) (body := body) (binds := binds) hroom ((X₀.keeps F.keep) _ _ ho) rfl (T.nolimit.keeps F.keep) (codeRec_of (X₀.keeps F.keep) hcd) rfl hbind hcell hloc (fun h₁ hns hk₁ => ?_) hco hgen hk
  exact ks_wpAt_mono (h _ s.heap.objs.size h₁ (grd_hide _ _) FG ⟨hns, fun b o e => hk₁ b o (of_hideAll _ e), Nat.le_of_eq (hideAll_size _ _)⟩
    (fun p hp => ⟨hk₁ _ _ (N p hp).1, Nat.ne_of_lt (Heap.lt_size (N p hp).1), hideAll_none _ (List.mem_map_of_mem hp)⟩) BG (X₀.keeps st) (T.keeps st) (fun p hp => Heap.lt_size (N p hp).1)) (fun fl s' hl => lv _ _ hl) fun _ _ y => y
end
theorem lineCSupD1 : True := by
  k_with "getMethod ref" => (k_here; (with_reducible show wpAny _ _ (getMethod (Value.ref _) (PySem.Str.ofString "__len__") _) _ _ _); k_dflt (refine' sup_method ?zF ?zX ?zN ?zs ?zx ?zd (k_slen _) typ_len slot_wd_get entry_wd_get (args_wd_get _ _ _) (wd_len _ _) (by decide) ?_; (case zF => k_asm); (case zX => k_asm); (case zN => k_asm); (case zs => k_mem); (case zx => k_mem); (case zd => k_mem); k_whole); intro kzq kzh kzF kzN kzl; (try k_lt kzl))
  exact trivial
theorem lineCSupD2 : True := by
  k_with "callWith ref" => (k_here; (with_reducible show wpAny _ _ (callWith _ (Value.ref _) [] (backTo _ (starEach [] _)) []) _ _ _); k_dflt (refine' callWith_B0 ?zT ?zX ?_; (case zX => exact News.get (by k_asm) (by k_mem)); (case zT => first | exact Or.inl rfl | exact Or.inr rfl); k_whole; try dsimp only [List.nil_append, List.cons_append]))
  exact trivial
theorem lineCSupD3 : True := by
  k_with "call ref" => (k_here; (with_reducible show wpAny _ _ (call (Value.ref _) []) _ _ _); k_dflt (refine' bcall_len ?zN ?zq ?zx ?_; (case zN => k_asm); (case zq => k_mem); (case zx => k_mem); k_whole))
  exact trivial
theorem count_ok (w : World) (mean : ExcName → Option Value) (mg mb : Str → Option Value) (x dx : Addr) (its : List Value) (n : Nat) (dob : Obj) :
    CallOk w mean mg mb [(x, accObj dx its.toArray n), (dx, dob)] 3 147 [.ref x] (fun r nw => ∃ t, r = .int its.length t ∧ nw = [(x, accObj dx its.toArray n), (dx, dob)]) := by
  unfold CallOk
  intro dp un gd cn cs a' ccd cl outer A₀ base h₀ L m s Q E B F X N T hk hdp hun hret
  refine wpAny_call ?_
  (refine' enterS_K ?k1 ?k2 ?k3 ?k4 ?k5 ?kA ?kF ?kK ?k6 ?k7 ?k8 ?k9 ?kB ?_ ?c5 ?c2 ?c3 ?c4; (case kA => exact rfl); (case kF => exact rfl); (case kK => assumption); (case k1 => k_asm); (case k2 => k_asm); (case k3 => k_asm); (case k4 => k_asm); (case k5 => k_asm); (case k6 => k_is); (case k7 => k_is); (case k8 => first | exact room0 hdp | ktr_room); (case k9 => exact BindsTo.of_eq rfl); (case c5 => decide); (case kB => exact locs rfl); (case c2 => exact rfl); (case c3 => exact rfl); (case c4 => exact rfl); intro g L' h' G FG F' N' B' X' T' l1; (try dsimp only); (try k_fold))
  k_steps
  with_reducible rename Fr h₀ _ _ _ => Fe
  with_reducible rename News h₀ _ _ _ => Ne
  with_reducible rename News g _ _ _ => Ng
  with_reducible rename Fr g _ _ _ => Fg
  refine hret _ [(x, accObj dx its.toArray n), (dx, dob)] _ _ Fe (newsSub Ne (by kcj_all)) (G.back Fg (newsSub Ng (by kcj_all))) ⟨_, by rw [List.size_toArray], rfl⟩
end Mine
end
-- CSupE
section
open PySem PySem.W PyProof.Rows PySem.Calls
set_option maxRecDepth 100000
set_option maxHeartbeats 4000000
namespace Mine
theorem off13 : True := by
  w_top off
  k_with_none
  exact trivial
theorem fill13 : (Challenge.rw_re0104_01, hd.heap_1) = (Challenge.rw_re0104_01, hd.heap_1) := by
  k_fill
  rfl
section
variable {prog : Program} {w : World} {A : Around} {E : Value → Shared → Prop} {s : Shared} {K : Frag} {C x : Addr} {ox : Obj} {od : Option Obj} {name : Str} {pl : Sem Bool} {Q : Value × List Value → Shared → Prop}
theorem method_fnL {f : Addr} (X : K.In s.heap) (I : InstAt s.heap x ox C od) (hga : findIn K (.ref C) "__getattribute__" = some (some (.builtin "list.__getattribute__"))) (hk : findIn K (.ref C) "__getattr__" = some none)
    (hf : findIn K (.ref C) name = some (some (.ref f))) (ht : typeIn K (.ref f) = some (.type "function")) (hs : shadowIn od name = some false) (h : Q (.ref f, [.ref x]) s) :
    wpAny (model prog w) A (getMethod (.ref x) name pl) Q E s := by
  have hcan := canon_lga
  unfold getMethod specialOf
  refine wpAny_bind (wpAny_bind (I.type.here ((looks_findIn X hga).here ?_)))
  dsimp only
  rw [hcan, if_neg (by decide)]
  refine wpAny_bind (wpAny_bind (I.type.here ((looks_findIn X hk).here ?_)))
  refine wpAny_bind (wpAny_bind (I.type.here ((looks_findIn X hf).here (wpAny_bind ((looks_typeIn X ht).here ?_)))))
  rw [if_neg (by decide +kernel)]
  refine wpAny_bind (wpAny_loadPart I.at_ ?_)
  have hd := I.dict
  cases e : ox.dict with
  | none => exact wpAny_bind (wpAny_rule (wpAny_pure h))
  | some dx =>
    cases od with
    | none => rw [e] at hd; exact hd.elim
    | some o =>
      rw [e] at hd
      obtain ⟨r, a, b⟩ := Option.map_eq_some_iff.mp hs
      refine wpAny_bind (wpAny_bind (wpAny_loadPart hd ?_))
      rw [nsLook_of a]
      refine wpAny_pure ?_
      rw [b]
      exact wpAny_bind (wpAny_rule (wpAny_pure h))
end
theorem k_mcount (P : Params) : findIn (hd.heap_1 P) (.ref 150) "part_count" = some (some (.ref 147)) := by kernel_rfl
theorem k_mpush (P : Params) : findIn (hd.heap_1 P) (.ref 150) "push" = some (some (.ref 94)) := by kernel_rfl
theorem k_mpop (P : Params) : findIn (hd.heap_1 P) (.ref 150) "pop" = some (some (.ref 110)) := by kernel_rfl
theorem lineCSupE1 : True := by
  k_with "getMethod ref" => (k_here; (with_reducible show wpAny _ _ (getMethod (Value.ref _) (PySem.Str.ofString "pop") _) _ _ _); k_dflt (refine' sup_method ?zF ?zX ?zN ?zs ?zx ?zd (k_spop _) typ_pop slot_md_get entry_md_get (args_md_get _ _ _) (md_pop _ _) (by decide) ?_; (case zF => k_asm); (case zX => k_asm); (case zN => k_asm); (case zs => k_mem); (case zx => k_mem); (case zd => k_mem); k_whole); intro kzq kzh kzF kzN kzl; (try k_lt kzl))
  exact trivial
theorem lineCSupE2 : True := by
  k_with "getMethod ref" => (k_here; (with_reducible show wpAny _ _ (getMethod (Value.ref _) (PySem.Str.ofString "part_count") _) _ _ _); k_dflt (refine' method_fnL ?zx ?zi (k_ga _) (k_gat _) (k_mcount _) ?zt ?zs ?_; (case zx => k_in); (case zi => k_inst); (case zt => k_is); (case zs => first | rfl | assumption); k_whole))
  exact trivial
theorem lineCSupE3 : True := by
  k_with "callWith ref" => (k_here; (with_reducible show wpAny _ _ (callWith _ (Value.ref _) [] (backTo _ (starEach [] _)) []) _ _ _); k_dflt (refine' callWith_B0 ?zT ?zX ?_; (case zX => exact News.get (by k_asm) (by k_mem)); (case zT => first | exact Or.inl rfl | exact Or.inr rfl); k_whole; try dsimp only [List.nil_append, List.cons_append]))
  exact trivial
theorem lineCSupE4 : True := by
  k_with "call ref" => (k_here; (with_reducible show wpAny _ _ (call (Value.ref _) []) _ _ _); k_dflt (refine' bcall_pop ?zF ?zX ?zN ?zq ?zU ?zz ?_; (case zF => k_asm); (case zX => k_asm); (case zN => k_asm); (case zq => k_mem); (case zU => k_upd); (case zz => assumption); k_whole); intro kzh kzF kzN)
  exact trivial
theorem lineCSupE5 : True := by
  k_with "wpAt" => (dsimp only; ks_step "execs cons"; refine ks_wpAt_execs_cons ?_)
  exact trivial
theorem lineCSupE6 : True := by
  k_with "wpAt" => (ks_step "eval Call"; refine ks_wpAt_MethodCall (pl := do return (← importBound _ _).getD true) ?_ (by with_unfolding_all rfl))
  exact trivial
theorem pop_ok (w : World) (mean : ExcName → Option Value) (mg mb : Str → Option Value) (x dx : Addr) (p : List Value) (y : Value) (n : Nat) (dob : Obj) (hdx : dx ≠ x) (hsh : shadowIn (some dob) "part_count" = some false) (hsz : p.length < sizeLine) :
    CallOk w mean mg mb [(x, accObj dx (p ++ [y]).toArray n), (dx, dob)] 6 110 [.ref x] (fun r nw => r = y ∧ nw = [(x, accObj dx p.toArray (n + 1)), (dx, dob)]) := by
  unfold CallOk
  intro dp un gd cn cs a' ccd cl outer A₀ base h₀ L m s Q E B F X N T hk hdp hun hret
  refine wpAny_call ?_
  (refine' enterS_K ?k1 ?k2 ?k3 ?k4 ?k5 ?kA ?kF ?kK ?k6 ?k7 ?k8 ?k9 ?kB ?_ ?c5 ?c2 ?c3 ?c4; (case kA => exact rfl); (case kF => exact rfl); (case kK => assumption); (case k1 => k_asm); (case k2 => k_asm); (case k3 => k_asm); (case k4 => k_asm); (case k5 => k_asm); (case k6 => k_is); (case k7 => k_is); (case k8 => first | exact room0 hdp | ktr_room); (case k9 => exact BindsTo.of_eq rfl); (case c5 => decide); (case kB => exact locs rfl); (case c2 => exact rfl); (case c3 => exact rfl); (case c4 => exact rfl); intro g L' h' G FG F' N' B' X' T' l1; (try dsimp only); (try k_fold))
  k_steps
  with_reducible rename Fr g _ _ _ => F2
  with_reducible rename News g _ _ _ => N2
  dsimp only [List.append_nil]
  refine CallOk.use (count_ok w mean mg mb x dx (p ++ [y]) n dob) B' F2 X' N2 T' rfl (by first | exact room1 hdp rfl | ktr_room) (by first | exact units1 hun rfl | ktr_units) ?_
  intro r1 nw1 h1' tk1 F1 N1 K1 hr1
  obtain ⟨t1, rfl, rfl⟩ := hr1
  clear F2 N2
  have hl1 : ((p ++ [y]).length : Int) ≠ 0 := by rw [List.length_append, List.length_singleton]; omega
  dsimp only
  k_steps
  all_goals first | (exfalso; exact hl1 (by assumption)) | skip
  with_reducible rename Fr h₀ _ _ _ => Fe
  with_reducible rename News h₀ _ _ _ => Ne
  with_reducible rename News g _ _ _ => Ng
  with_reducible rename Fr g _ _ _ => Fg
  refine hret _ [(x, accObj dx p.toArray (n + 1)), (dx, dob)] _ _ Fe (newsSub Ne (by kcj_all)) (G.back Fg (newsSub Ng (by kcj_all))) ⟨rfl, rfl⟩
end Mine
end
-- CMake
section
open PySem PySem.W PyProof.Rows PySem.Calls
set_option maxRecDepth 100000
set_option maxHeartbeats 4000000
namespace Mine
def makesLIn (K : Frag) (C : Addr) : Bool := match K.lookup C with
  | some ⟨_, _, .cls cd, sl⟩ => !cd.hasDel && (sl.toList[4]?).join == some (.builtin "list.__new__") && !cd.mro.isEmpty && cd.mro.contains (.ref C) && cd.mro.contains (.type "list") &&
      specialIn K (.ref C) "__call__" == some (some (.builtin "type.__call__")) && instIn K (.ref C) (.type "type") == some true
  | _ => false
structure MakesL (M : Model) (h : Heap) (C : Addr) : Prop where
  obj : ∃ oc od cd sl, h.get? C = some ⟨oc, od, .cls cd, sl⟩ ∧ cd.hasDel = false ∧ cd.mro.isEmpty = false
  made : Looks M h (Bind.madeBy (.ref C)) (some "list.__new__")
  base : Looks M h (Bind.staticBase (.ref C)) (.ref C)
  self : Looks M h (isSubtype (.ref C) (.ref C)) true
  top : Looks M h (isSubtype (.ref C) (.type "list")) true
  call : Looks M h (specialOf (.ref C) "__call__") (some (.builtin "type.__call__"))
  typ : Looks M h (isInstance (.ref C) (.type "type")) true
theorem makesL_of {K : Frag} {M : Model} {h : Heap} (X : K.In h) {C : Addr} (e : makesLIn K C = true) : MakesL M h C := by
  unfold makesLIn at e
  split at e
  · rename_i oc od cd sl ho
    simp only [Bool.and_eq_true, Bool.not_eq_true', beq_iff_eq] at e
    obtain ⟨⟨⟨⟨⟨⟨e2, e3⟩, e4⟩, e5⟩, e6⟩, e7⟩, e8⟩ := e
    have hc : clsIn K C = some cd := by unfold clsIn; rw [ho]
    have hm : Looks M h (mroOf (.ref C)) cd.mro := (looks_clsIn X hc).andThen .now
    obtain ⟨c, l, hl⟩ : ∃ c l, cd.mro = c :: l := by cases q : cd.mro with | nil => rw [q] at e4; cases e4 | cons c l => exact ⟨c, l, rfl⟩
    have made : Looks M h (Bind.madeBy (.ref C)) (some "list.__new__") := by
      intro A Q E s k q
      unfold Bind.madeBy
      refine wpAny_bind (hm A _ E s k ?_)
      rw [hl, List.forIn_cons]
      refine wpAny_bind (wpAny_bind (wpAny_bind (wpAny_bind (wpAny_loadPart (k _ _ (X _ _ ho)) (wpAny_pure ?_)))))
      dsimp only
      rw [← Array.getElem?_toList, e3]
      exact wpAny_pure (wpAny_pure (wpAny_pure q))
    refine ⟨⟨oc, od, cd, sl, X _ _ ho, e2, e4⟩, made, ?_, looks_mroIn X ?_, looks_mroIn X ?_, looks_specialIn X e7, looks_instIn X e8⟩
    · intro A Q E s k q
      unfold Bind.staticBase
      refine wpAny_bind (hm A _ E s k ?_)
      rw [hl, List.forIn_cons]
      exact wpAny_bind (wpAny_bind (wpAny_bind (made A _ E s k (wpAny_pure (wpAny_pure (wpAny_pure q))))))
    · unfold mroIn; rw [hc, Option.bind_some, if_neg (by rw [e4]; decide), e5]
    · unfold mroIn; rw [hc, Option.bind_some, if_neg (by rw [e4]; decide), e6]
  · cases e
abbrev listInst (C dx : Addr) : Obj := { cls := .ref C, dict := some dx, data := .seq #[] }
theorem split_lnew : splitId "list.__new__" = some ("list", "__new__") := by decide +kernel
theorem kind_lnew : builtinKind "list.__new__" = some .builtinFn := by decide +kernel
noncomputable def sigLnew : Manifest.Signature := (Manifest.signature? "list.__new__").get (by decide +kernel)
theorem sig_lnew : Manifest.signature? "list.__new__" = some sigLnew := by kernel_rfl
theorem args_lnew (x : Addr) : Bind.checkArgs "list.__new__" sigLnew ⟨[.ref x], []⟩ = pure () := by kernel_rfl
theorem quiet_lnew : "list.__new__".startsWith "lifetime." = false := by decide +kernel
section
variable {prog : Program} {w : World} {A : Around} {K : Frag} {C : Addr} {R : Result → Shared → Prop} {h : Heap} {g : Array GenState} {d : Drawn} {t : Nat} {os : OsState}
theorem new_L (Y : MakesL (model prog w) h C)
    (hq : R (.ok (.ret (.ref (h.objs.size + 1)))) ⟨(h.push emptyDict).push (listInst C h.objs.size), g, d, t, os⟩) :
    codeAny (model prog w) A (.call (.builtin "list.__new__") ⟨[.ref C], []⟩) R ⟨h, g, d, t, os⟩ := by
  obtain ⟨⟨oc, od, cd, sl, hC, e2, e4⟩, made, base, self, top, call, typ⟩ := Y
  refine codeAny_call_builtin_code (Code.quiet_builtin _ quiet_lnew) ?_
  simp only [checkBuiltinCall, kind_lnew, split_lnew, sig_lnew]
  have args := args_lnew C
  rw [args]
  repeat (first | simp only [bne_self_eq_false, Bool.false_eq_true, if_false] | lk)
  refine codeAny_builtin_stack PySem.F.entry_list_new rfl fun p st => ?_
  have hown := owner_list_new
  simp only [hown]
  have fin : ∀ A', wpAny (model prog w) A' (do
      let .ref d ← newDict | unsupported "internal:list.__new__"
      ret (← newObj (.ref C) (.seq #[]) (some d))) (fun fin s' => match fin with | .done f => R (.ok f) s' | .again c' => c'.quiet = true ∧ codeAny (model prog w) A c' R s') (fun e s' => R (.error e) s') ⟨h, g, d, t, os⟩ := by
    intro A'
    unfold newDict
    refine wpAny_bind (wpAny_newObj_type ?_ (by size_fits))
    dsimp only
    refine wpAny_bind ?_
    show wpAny _ _ (newObjAsIs _ _ _) _ _ _
    unfold newObjAsIs classHasDel
    refine wpAny_bind (wpAny_alloc (wpAny_bind (wpAny_bind (wpAny_load (Heap.get?_push_of_some _ (Heap.get?_push_of_some _ hC)) (wpAny_pure ?_)))))
    rw [e2]
    refine wpAny_pure (wpAny_pure ?_)
    show R _ _
    rw [Heap.size_push]
    exact hq
  repeat (first | simp only [bne_self_eq_false, Bool.false_eq_true, if_false, Bool.not_true] | exact fin _ | lk)
end
end Mine
end
-- CMake2
section
open PySem PySem.W PyProof.Rows PySem.Calls
open Builtin Builtin.ObjectAttr
set_option maxRecDepth 100000
set_option maxHeartbeats 4000000
namespace Mine
theorem fill20 : (Challenge.rw_re0104_01, hd.heap_1) = (Challenge.rw_re0104_01, hd.heap_1) := by
  k_fill
  rfl
section
variable {prog : Program} {w : World} {A : Around} {K : Frag} {C : Addr} {R : Result → Shared → Prop} {h : Heap} {g : Array GenState} {d : Drawn} {t : Nat} {os : OsState}
theorem make_coreL {init : Value} (Y : MakesL (model prog w) h C) (hi : Looks (model prog w) h (typeLookup (.ref C) "__init__") (some init))
    (hb : ∀ self, Looks (model prog w) h (bindSpecial init self) (init, [self]))
    (hq : codeAny (model prog w) (A.under (.builtin "type.__call__" ⟨[.ref C], []⟩)) (.call init ⟨[.ref (h.objs.size + 1)], []⟩) (InitBack (h.objs.size + 1) R) ⟨(h.push emptyDict).push (listInst C h.objs.size), g, d, t, os⟩) :
    codeAny (model prog w) A (.call (.ref C) ⟨[], []⟩) R ⟨h, g, d, t, os⟩ := by
  have Y' := Y
  obtain ⟨⟨oc, od, cd, sl, hC, e2, e4⟩, made, base, self, top, call, typ⟩ := Y
  refine codeAny_of_tree ?_
  show wpAny _ _ (callAny (.ref C) _) _ _ _
  refine nd_load hC ?_
  show wpAny _ _ (callAny.viaDunder (.ref C) _) _ _ _
  unfold callAny.viaDunder
  refine wpAny_bind (call.at ?_)
  dsimp only
  rw [tc_bind]
  refine wpAny_bind (wpAny_pure (wpAny_bind (wpAny_pure ?_)))
  refine wpAny_pure (a := Fin.again (.call (.builtin "type.__call__") ⟨[.ref C], []⟩)) (And.intro rfl ?_)
  refine codeAny_call_builtin_at (Code.quiet_builtin _ (by decide +kernel)) entry_typeCall (check_slot tc_kind tc_split typ (tc_args _ _ _) ?_)
  unfold Builtin.«type.__call__»
  have hm : Looks (model prog w) h (mroOf (.ref C)) cd.mro := ((Looks.ld (part := none) hC).andThen .now).andThen .now
  repeat (first | simp only [e4, Bool.false_eq_true, if_false] | with_reducible refine wpAny_call ?_ | lk)
  refine new_L Y' ?_
  have k : ∀ b o, h.get? b = some o → ((h.push emptyDict).push (listInst C h.objs.size)).get? b = some o := fun b o e => Heap.get?_push_of_some _ (Heap.get?_push_of_some _ e)
  have hx : ((h.push emptyDict).push (listInst C h.objs.size)).get? (h.objs.size + 1) = some (listInst C h.objs.size) := by heap_get
  have t1 : Looks (model prog w) ((h.push emptyDict).push (listInst C h.objs.size)) (typeOf (.ref (h.objs.size + 1))) (.ref C) := (Looks.ld hx).andThen .now
  have s1 := self.keeps k
  have i1 := hi.keeps k
  have b1 := (hb (.ref (h.objs.size + 1))).keeps k
  unfold isInstance callSpecial? specialOf
  repeat (first | with_reducible refine wpAny_call ?_ | lk)
  refine codeAny_mono hq fun r s' z => ?_
  rcases r with e | (v | _ | _ | _) <;> first | exact z | exact z.elim | skip
  obtain ⟨rfl, z⟩ := z
  exact wpAny_pure (wpAny_pure z)
end
theorem refuse_list (self : Value) : refuseLoop self "__setattr__" [.type "list", .type "object"] = pure () := by kernel_rfl
section
variable {prog : Program} {w : World} {A : Around} {K : Frag} {C x : Addr} {s : Shared} {h₀ : Heap} {L : Addr} {m : Str → Option Value} {news : List (Addr × Obj)} {R : Result → Shared → Prop}
theorem make_KL {fI : Addr} (F : Fr h₀ L s.heap m) (N : News h₀ L s.heap news) (X : K.In s.heap) (hm : makesLIn K C = true)
    (hi : findIn K (.ref C) "__init__" = some (some (.ref fI))) (hf : typeIn K (.ref fI) = some (.type "function"))
    (h : ∀ x dx h', Fr h₀ L h' m → News h₀ L h' ((x, listInst C dx) :: (dx, emptyDict) :: news) → (∀ p ∈ news, p.1 < dx) → dx < x → (∀ b o, s.heap.get? b = some o → h'.get? b = some o) → s.heap.get? x = none → s.heap.get? dx = none →
      codeAny (model prog w) (A.under (.builtin "type.__call__" ⟨[.ref C], []⟩)) (.call (.ref fI) ⟨[.ref x], []⟩) (InitBack x R) { s with heap := h' }) :
    codeAny (model prog w) A (.call (.ref C) ⟨[], []⟩) R s := by
  obtain ⟨hh, g, d, t, os⟩ := s
  refine make_coreL (makesL_of X hm) (looks_findIn X hi) (fun self => bind_fn X self hf) (h _ hh.objs.size _ ((F.push _).push _) ?_ (fun p hp => Heap.lt_size (N p hp).1) (Nat.lt_succ_self _) (fun b o e => Heap.get?_push_of_some _ (Heap.get?_push_of_some _ e)) (Heap.get?_none_of_le (Nat.le_succ _)) (Heap.get?_none_of_le (Nat.le_refl _)))
  have := (N.push F emptyDict).push (F.push _) (listInst C hh.objs.size)
  rwa [Heap.size_push] at this
theorem osaL_open {ox : Obj} {od : Option Obj} {name : Str} {tk : Tok} {v : Value} {cd : ClassData} (X : K.In s.heap) (I : InstAt s.heap x ox C od) (hc : clsIn K C = some cd) (hmro : cd.mro = [.ref C, .type "list", .type "object"]) (ht : takerIn K C name = some none)
    (h : ∀ b, wpAny (model prog w) A.in1 (storeInOwnDict (.ref x) (.ref C) (.str name tk) name v b)
      (fun fin s' => match fin with | .done f => R (.ok f) s' | .again c' => c'.quiet = true ∧ codeAny (model prog w) A c' R s') (fun e s' => R (.error e) s') s) :
    codeAny (model prog w) A (.call (.builtin "object.__setattr__") ⟨[.ref x, .str name tk, v], []⟩) R s := by
  have SF := PySem.F.store_object
  have ne : cd.mro.isEmpty = false := by rw [hmro]; rfl
  have sub : Looks (model prog w) s.heap (isInstance (.ref x) (.type "object")) true := I.type.andThen (looks_mroIn X (by unfold mroIn; rw [hc, Option.bind_some, if_neg (by rw [ne]; decide), hmro]; simp))
  refine codeAny_call_builtin SF.slot.plain SF.entry (@check_slot (model prog w) _ _ s "object.__setattr__" "object" "__setattr__" (.ref x) [.str name tk, v] [] _ SF.kind SF.split sub (SF.args (.ref x) (.str name tk) v) ?_)
  obtain ⟨attr, ha, hr⟩ := Option.bind_eq_some_iff.mp ht
  have hm : Looks (model prog w) s.heap (mroOf (.ref C)) cd.mro := (looks_clsIn X hc).andThen .now
  have L3 : Looks (model prog w) s.heap (storeTaker? attr) none := by
    cases attr with
    | none => exact .now
    | some a =>
      obtain ⟨b, hb, hr⟩ := Option.map_eq_some_iff.mp hr
      refine (looks_takesIn X hb).andThen ?_
      cases b
      · exact .now
      · cases hr
  rw [osa_eq, refuse_eq]
  refine wpAny_bind (wpAny_bind (I.type.here (wpAny_bind (hm.here ?_))))
  rw [hmro, refuseLoop_ref, refuse_list]
  refine wpAny_pure (wpAny_bind (I.type.here (wpAny_bind ((looks_findIn X ha).here (wpAny_bind (L3.here ?_))))))
  exact h _
theorem osaL_dict {ox od od' : Obj} {dx : Addr} {name : Str} {tk : Tok} {v : Value} {pre post : List (Addr × Obj)} {es : List DictEntry} {n : Nat} {cd : ClassData} (F : Fr h₀ L s.heap m) (N : News h₀ L s.heap (pre ++ (dx, od) :: post)) (X : K.In s.heap)
    (I : InstAt s.heap x ox C (some od)) (hd : ox.dict = some dx) (hc : clsIn K C = some cd) (hmro : cd.mro = [.ref C, .type "list", .type "object"]) (ht : takerIn K C name = some none) (hd' : cd.hasDict = true)
    (hl : (lookIn name od).isSome = true) (h1 : ∀ p ∈ pre, p.1 ≠ dx) (h2 : ∀ p ∈ post, p.1 ≠ dx)
    (e : Obj.putName name (PyData.keyHash w.params name) (.str name s.toks) v od = od') (e' : od'.data = .dict es.toArray n) (hz : es.length ≤ 1000)
    (h : ∀ h', Fr h₀ L h' m → News h₀ L h' (pre ++ (dx, od') :: post) → R (.ok (.ret .none)) { s with heap := h', toks := s.toks + 1 }) :
    codeAny (model prog w) A (.call (.builtin "object.__setattr__") ⟨[.ref x, .str name tk, v], []⟩) R s := by
  refine osaL_open X I hc hmro ht fun b => ?_
  obtain ⟨U1, U2⟩ := news_upd (f := Obj.putName name (PyData.keyHash w.params name) (.str name s.toks) v) F N h1 h2 e (by obtain ⟨_, _, dd, _⟩ := od'; cases e'; rfl)
  have D := (N (dx, od) (by simp)).1
  have D' := (U2 (dx, od') (by simp)).1
  obtain ⟨hx, hcl, hn, -⟩ := I
  obtain ⟨oc, odi, oda, osl⟩ := ox
  dsimp only at hcl hd
  subst hcl hd
  refine wpAny_bind (wpAny_pure (wpAny_bind (wpAny_bind (wpAny_loadPart hx (wpAny_bind ((looks_clsIn X hc).here ?_))))))
  rw [hd']
  refine wpAny_pure (a := some dx) (wpAny_bind (wpAny_pure (wpAny_bind ?_)))
  unfold nsSet
  refine wpAny_bind (wpAny_bind (wpAny_askSetting (wpAny_pure (wpAny_bind (wpAny_mkText (wpAny_bind (wpAny_loadPart D ?_)))))))
  unfold lookIn at hl
  split at hl
  · rename_i es₀ n₀ q
    rw [q]
    dsimp only
    have c : (!es₀.any (·.key.isStr name) && es₀.any (·.refKey)) = false := by
      rw [← Array.any_toList, ← Array.any_toList]
      split at hl
      · rename_i en he
        rw [List.any_eq_true.mpr ⟨en, List.mem_of_find?_eq_some he, List.find?_some he⟩]; rfl
      · split at hl
        · cases hl
        · rename_i z; rw [Bool.not_eq_true] at z; rw [z, Bool.and_false]
    rw [aRefKeyMayBeTheName_at, c]
    refine wpAny_updatePart D ?_
    refine wpAny_bind (wpAny_lookBehind D' (by rw [e']; exact pastItsLine_dict (by rw [List.size_toArray, sizeLine_eq]; omega)) ?_)
    exact wpAny_pure (h _ U1 U2)
  · cases hl
theorem set_dictL {E : Value → Shared → Prop} {Q : Unit → Shared → Prop} {ox : Obj} {dx : Addr} {name : Str} {v : Value} {es es' : List DictEntry} {n n' : Nat} {news' : List (Addr × Obj)} {cd : ClassData} (F : Fr h₀ L s.heap m) (X₀ : K.In h₀) (N : News h₀ L s.heap news) (I : InstAt s.heap x ox C (some (dictOf es n))) (hd : ox.dict = some dx)
    (hs : findIn K (.ref C) "__setattr__" = some (some (.builtin "object.__setattr__"))) (hc : clsIn K C = some cd) (hmro : cd.mro = [.ref C, .type "list", .type "object"]) (ht : takerIn K C name = some none) (hh : cd.hasDict = true) (hl : (getL name es).isSome = true)
    (e : (putL name (PyData.keyHash w.params name) (.str name (s.toks + 1)) v es, putN name es n) = (es', n')) (U : Upd dx (dictOf es n) (dictOf es' n') news news') (hz : es'.length ≤ 1000)
    (h : ∀ h', Fr h₀ L h' m → News h₀ L h' news' → Q () { s with heap := h', toks := s.toks + 2 }) :
    wpAny (model prog w) A (setAttr (.ref x) name v) Q E s := by
  obtain ⟨pre, post, rfl, rfl, a, b⟩ := U.split
  obtain ⟨e1, e2⟩ := Prod.mk.inj e
  exact set_plain (X₀.keeps F.keep) I hs (osaL_dict (s := { s with toks := s.toks + 1 }) F N (X₀.keeps F.keep) I hd hc hmro ht hh hl a b (by rw [putName_dict, e1, e2]) rfl hz fun h' F' N' => h h' F' N')
end
theorem k_makes (P : Params) : makesLIn (hd.heap_1 P) 150 = true := by kernel_rfl
theorem k_finit (P : Params) : findIn (hd.heap_1 P) (.ref 150) "__init__" = some (some (.ref 87)) := by kernel_rfl
theorem k_fset (P : Params) : findIn (hd.heap_1 P) (.ref 150) "__setattr__" = some (some (.builtin "object.__setattr__")) := by kernel_rfl
theorem k_mro (P : Params) : (clsIn (hd.heap_1 P) 150).map (fun cd => (cd.mro, cd.hasDict)) = some ([.ref 150, .type "list", .type "object"], true) := by kernel_rfl
theorem k_taker (P : Params) : takerIn (hd.heap_1 P) 150 "_initial_size" = some none := by kernel_rfl
theorem k_finit_t (P : Params) : typeIn (hd.heap_1 P) (.ref 87) = some (.type "function") := by kernel_rfl
end Mine
end
-- CMake3
section
open PySem PySem.W PyProof.Rows PySem.Calls
set_option maxRecDepth 100000
set_option maxHeartbeats 4000000
namespace Mine
theorem off14 : True := by
  w_top off
  k_with_none
  exact trivial
theorem fill21 : (Challenge.rw_re0104_01, hd.heap_1) = (Challenge.rw_re0104_01, hd.heap_1) := by
  k_fill
  rfl
/-- the instance's own dict -/
structure OwnDict (o : Obj) : Prop where
  is : ∃ hs k tv, o = dictOf [⟨hs, .str "_initial_size" k, .int 0 tv⟩] 1
theorem OwnDict.shadow {o : Obj} (D : OwnDict o) (name : Str) (hn : ((Str.ofString "_initial_size") == name) = false) : shadowIn (some o) name = some false := by
  obtain ⟨hs, k, tv, rfl⟩ := D.is
  show (getL name [⟨hs, .str "_initial_size" k, .int 0 tv⟩]).map (·.isSome) = some false
  unfold getL
  have e : (Value.str "_initial_size" k).isStr name = false := hn
  simp only [List.find?_cons, e, List.find?_nil, List.any_cons, List.any_nil]
  rfl
theorem acc_set {w : World} {A : Around} {E : Value → Shared → Prop} {s : Shared} {h₀ : Heap} {L x dx : Addr} {m : Str → Option Value} {tv : Tok} {Q : Unit → Shared → Prop} (F : Fr h₀ L s.heap m) (X : (hd.heap_1 w.params).In h₀) (N : News h₀ L s.heap [(x, accObj dx #[] 0), (dx, dictOf [] 0)]) (hne : dx < x)
    (h : ∀ h' hs k, Fr h₀ L h' m → News h₀ L h' [(x, accObj dx #[] 0), (dx, dictOf [⟨hs, .str "_initial_size" k, .int 0 tv⟩] 1)] → Q () { s with heap := h', toks := s.toks + 2 }) :
    wpAny (model Challenge.rw_re0104_01.row.prog w) A (setAttr (.ref x) (Str.ofString "_initial_size") (.int 0 tv)) Q E s := by
  cases hc : clsIn (hd.heap_1 w.params) 150 with
  | none => have z := k_mro w.params; rw [hc] at z; cases z
  | some cd =>
    have z := k_mro w.params
    rw [hc] at z
    have z' : (cd.mro, cd.hasDict) = ([.ref 150, .type "list", .type "object"], true) := Option.some.inj z
    obtain ⟨z1, z2⟩ := Prod.mk.inj z'
    exact set_dictL (es' := [⟨PyData.keyHash w.params (Str.ofString "_initial_size"), .str (Str.ofString "_initial_size") (s.toks + 1), .int 0 tv⟩]) (n' := 1) F X N (accInst (N _ (.head _)).1 (N _ (.tail _ (.head _))).1) rfl (k_fset _) hc z1 (k_taker _) z2 rfl rfl (.tail (Nat.ne_of_gt hne) (.head (fun _ h => nomatch h))) (Nat.le_of_ble_eq_true rfl) fun h' F' N' => h h' _ _ F' N'
theorem lineCMake31 : True := by
  k_with "setAttr ref" => (k_here; k_dflt (refine' acc_set ?zF ?zX ?zN ?zl ?_; (case zF => k_asm); (case zX => k_asm); (case zN => k_asm); (case zl => assumption)); intro kzh kzs kzk kzF kzN)
  exact trivial
theorem lineCMake32 : True := by
  k_with "getMethod ref" => (k_here; (with_reducible show wpAny _ _ (getMethod (Value.ref _) (PySem.Str.ofString "__init__") _) _ _ _); k_dflt (refine' sup_method ?zF ?zX ?zN ?zs ?zx ?zd (k_sinit _) typ_init slot_wd_get entry_wd_get (args_wd_get _ _ _) (wd_init _ _) (by decide) ?_; (case zF => k_asm); (case zX => k_asm); (case zN => k_asm); (case zs => k_mem); (case zx => k_mem); (case zd => k_mem); k_whole); intro kzq kzh kzF kzN kzl; (try k_lt kzl))
  exact trivial
theorem lineCMake33 : True := by
  k_with "callWith ref" => (k_here; (with_reducible show wpAny _ _ (callWith _ (Value.ref _) [] (backTo _ (starEach [] _)) []) _ _ _); k_dflt (refine' callWith_B0 ?zT ?zX ?_; (case zX => exact News.get (by k_asm) (by k_mem)); (case zT => first | exact Or.inl rfl | exact Or.inr rfl); k_whole; try dsimp only [List.nil_append, List.cons_append]))
  exact trivial
theorem lineCMake34 : True := by
  k_with "call ref" => (k_here; (with_reducible show wpAny _ _ (call (Value.ref _) []) _ _ _); k_dflt (refine' bcall_init ?zF ?zN ?zq ?zU ?_; (case zF => k_asm); (case zN => k_asm); (case zq => k_mem); (case zU => k_upd); k_whole); intro kzh kzF kzN)
  exact trivial
theorem lineCMake35 : True := by
  k_with "wpAt" => (dsimp only; ks_step "execs cons"; refine ks_wpAt_execs_cons ?_)
  exact trivial
theorem lineCMake36 : True := by
  k_with "wpAt" => (ks_step "eval Call"; refine ks_wpAt_MethodCall (pl := do return (← importBound _ _).getD true) ?_ (by with_unfolding_all rfl))
  exact trivial
theorem lineCMake37 : True := by
  k_with "wpAt" => (ks_step "exec Expr"; refine ks_wpAt_Expr_any ?_ (by with_unfolding_all rfl) (by with_unfolding_all rfl))
  exact trivial
theorem make_ok (w : World) (mean : ExcName → Option Value) (mg mb : Str → Option Value) :
    CallOk w mean mg mb [] 6 150 [] (fun r nw => ∃ x dx dob, r = .ref x ∧ dx ≠ x ∧ OwnDict dob ∧ nw = [(x, accObj dx #[] 0), (dx, dob)]) := by
  unfold CallOk
  intro dp un gd cn cs a' ccd cl outer A₀ base h₀ L m s Q E B F X N T hk hdp hun hret
  refine wpAny_call (make_KL F N (X.keeps F.keep) (k_makes _) (k_finit _) (k_finit_t _) ?_)
  intro x dx h1 F1 N1 l0 l1 kp nx nd
  have l2 := l1
  k_lt2 l2
  (refine' enterS_K ?k1 ?k2 ?k3 ?k4 ?k5 ?kA ?kF ?kK ?k6 ?k7 ?k8 ?k9 ?kB ?_ ?c5 ?c2 ?c3 ?c4; (case kA => exact rfl); (case kF => exact rfl); (case kK => assumption); (case k1 => k_asm); (case k2 => k_asm); (case k3 => k_asm); (case k4 => k_asm); (case k5 => k_asm); (case k6 => k_is); (case k7 => k_is); (case k8 => first | exact room0 hdp | ktr_room); (case k9 => first | exact BindsTo.of_eq rfl | exact binds_K (by k_in) rfl (by k_is) rfl rfl rfl); (case c5 => decide); (case kB => exact locs rfl); (case c2 => exact rfl); (case c3 => exact rfl); (case c4 => exact rfl); intro g L' h' G FG F' N' B' X' T' l1'; (try dsimp only); (try k_fold))
  k_steps
  with_reducible rename Fr h₀ _ _ _ => Fe
  with_reducible rename News h₀ _ _ _ => Ne
  with_reducible rename News g _ _ _ => Ng
  with_reducible rename Fr g _ _ _ => Fg
  have Kb := G.back Fg Ng
  refine hret _ [(x, accObj dx #[] 0), (dx, _)] _ _ Fe (newsSub Ne (by kcj_all)) ⟨fun b o e n => Kb.keep b o (kp b o e) (fun hm => ?_), fun p hp => ?_⟩ ⟨x, dx, _, rfl, Nat.ne_of_lt l2, ⟨_, _, _, rfl⟩, rfl⟩
  · rcases List.mem_cons.mp hm with e1 | hm
    · rw [show b = x from e1, nx] at e; cases e
    · rcases List.mem_cons.mp hm with e1 | hm
      · rw [show b = dx from e1, nd] at e; cases e
      · cases hm
  · rcases List.mem_cons.mp hp with rfl | hp
    · exact .inl nx
    · rcases List.mem_cons.mp hp with rfl | hp
      · exact .inl nd
      · cases hp
end Mine
end
-- CIter
section
open PySem PySem.W PyProof.Rows PySem.Calls
set_option maxRecDepth 100000
set_option maxHeartbeats 4000000
namespace Mine
def SeqAt (h : Heap) (l : Addr) (items : Array Value) : Prop := ∃ o, h.get? l = some o ∧ ∃ n, o.data = .seq items n
theorem SeqAt.to {h h' : Heap} {l : Addr} {items : Array Value} (S : SeqAt h l items) (k : ∀ o, h.get? l = some o → h'.get? l = some o) : SeqAt h' l items := let ⟨o, a, b⟩ := S; ⟨o, k _ a, b⟩
section
variable {prog : Program} {w : World} {A : Around} {E : Value → Shared → Prop} {s : Shared}
theorem acc_next {it l : Addr} {i : Nat} {items} {x : Value} {Q : Option Value → Shared → Prop} (hit : s.heap.IsListIter it l i) (hl : SeqAt s.heap l items) (hx : items[i]? = some x)
    (hQ : ∀ h', h'.IsListIter it l (i + 1) → Heap.SameBut it s.heap h' → Q (some x) { s with heap := h' }) : wpAny (model prog w) A (pyNext (.ref it)) Q E s := by
  obtain ⟨o, ho, hc, hd⟩ := id hit
  obtain ⟨ol, hol, nl, hdl⟩ := hl
  unfold pyNext
  refine wpAny_bind (wpAny_attempt (wpAny_callSpecial?_slot (name := Str.ofString "__next__") hit.typeIs slot_listiter_next (wpAny_call_entry slot_listiter_next hit.typeIs entry_listiter_next ?_ (args_listiter_next _))))
  show wpAny _ _ (field (.ref it) 0 >>= _) _ _ s
  refine wpAny_bind (wpAny_field ho hd (x := .ref l) rfl ?_)
  show wpAny _ _ (if (Value.ref l == Value.none) = true then _ else _) _ _ s
  rw [if_neg (show ¬ ((Value.ref l == Value.none) = true) from Bool.false_ne_true)]
  show wpAny _ _ (field (.ref it) 1 >>= _) _ _ s
  refine wpAny_bind (wpAny_field ho hd (x := .int i 0) rfl ?_)
  show wpAny _ _ (seqItems? (.ref l) >>= _) _ _ s
  refine wpAny_bind (wpAny_seqItems hol hdl ?_)
  simp only [Int.toNat_natCast, hx]
  refine wpAny_bind (wpAny_setField ho hd (by simp) (wpAny_pure ⟨x, rfl, wpAny_pure (hQ _ ?_ (Heap.SameBut.update ..))⟩))
  exact ⟨_, Heap.get?_update_self _ ho (Obj.isFreed_of_fields (Obj.data_mapFields hd _)), (Obj.cls_mapFields ..).trans hc, by rw [Obj.data_mapFields hd]; simp [rawInt]⟩
theorem acc_end {it l : Addr} {i : Nat} {items} {Q : Option Value → Shared → Prop} (hh : A.handled = none) (hit : s.heap.IsListIter it l i) (hl : SeqAt s.heap l items) (hx : items[i]? = none)
    (hQ : ∀ h', Heap.ExtBut it s.heap h' → Q none { s with heap := h' }) : wpAny (model prog w) A (pyNext (.ref it)) Q E s := by
  obtain ⟨o, ho, hc, hd⟩ := id hit
  obtain ⟨ol, hol, nl, hdl⟩ := hl
  unfold pyNext
  refine wpAny_bind (wpAny_attempt (wpAny_callSpecial?_slot (name := Str.ofString "__next__") hit.typeIs slot_listiter_next (wpAny_call_entry slot_listiter_next hit.typeIs entry_listiter_next ?_ (args_listiter_next _))))
  show wpAny _ _ (field (.ref it) 0 >>= _) _ _ s
  refine wpAny_bind (wpAny_field ho hd (x := .ref l) rfl ?_)
  show wpAny _ _ (if (Value.ref l == Value.none) = true then _ else _) _ _ s
  rw [if_neg (show ¬ ((Value.ref l == Value.none) = true) from Bool.false_ne_true)]
  show wpAny _ _ (field (.ref it) 1 >>= _) _ _ s
  refine wpAny_bind (wpAny_field ho hd (x := .int i 0) rfl ?_)
  show wpAny _ _ (seqItems? (.ref l) >>= _) _ _ s
  refine wpAny_bind (wpAny_seqItems hol hdl ?_)
  simp only [Int.toNat_natCast, hx]
  refine wpAny_bind (wpAny_rule (wpAny_bind (wpAny_setField ho hd (by simp) ?_)))
  show wpAny _ _ (newExc (.type "StopIteration") [] >>= _) _ _ _
  refine wpAny_bind ?_
  simp only [newExc, newTuple]
  refine wpAny_bind (wpAny_newObj_type ?_ (by size_fits))
  refine wpAny_bind (m := firstArgMember _ _) (wpAny_of_eq (a := Value.none) (by first | rfl | (simp only [firstArgMember]; rfl)) ?_)
  refine wpAny_newObj_type ?_ (by size_fits)
  simp only [raiseNew]
  refine wpAny_bind (wpAny_handled ?_)
  rw [show A.in1.handled = none from hh]
  refine wpAny_bind (wpAny_pure (wpAny_throw ?_))
  refine wpAny_bind (wpAny_isInstance (T := "StopIteration") (b := true) ⟨_, Heap.get?_push_size _ rfl, rfl⟩ isSubtype_stop ?_)
  exact wpAny_pure (hQ _ (((Heap.SameBut.update ..).extBut.push _).push _))
theorem walksAcc (hh : A.handled = none) (I ax : Addr) (hne : ax ≠ I) (items : Array Value) (Ts : Nat → Addr) (vals : Nat → Array Value)
    (hit : ∀ j, j < items.size → items[j]? = some (.ref (Ts j))) (hTI : ∀ j, j < items.size → Ts j ≠ I) :
    WalksU prog w A I (I :: ax :: (List.range items.size).map Ts) [I] items.size (fun j v => v = vals j)
      (fun j h => h.IsListIter I ax j ∧ SeqAt h ax items ∧ ∀ k, k < items.size → h.IsTuple (Ts k) (vals k))
      (fun j T h => (j < items.size ∧ T = Ts j) ∧ h.IsListIter I ax (j + 1) ∧ SeqAt h ax items ∧ ∀ k, k < items.size → h.IsTuple (Ts k) (vals k)) where
  sub := fun b hb => by simp at hb; simp [hb]
  frame := fun _ _ _ st hk => ⟨st.1.at fun o e => hk I (by simp) o e, st.2.1.to fun o e => hk ax (by simp) o e,
    fun k hk' => (st.2.2 k hk').at fun o e => hk (Ts k) (List.mem_cons_of_mem _ (List.mem_cons_of_mem _ (List.mem_map.mpr ⟨k, List.mem_range.mpr hk', rfl⟩))) o e⟩
  item := fun i s Q E hi st hQ => by
    refine acc_next st.1 st.2.1 (x := .ref (Ts i)) (hit i hi) fun h' hit' hs' => ?_
    have tup : ∀ k, k < items.size → h'.IsTuple (Ts k) (vals k) := fun k hk' => (st.2.2 k hk').extBut hs'.extBut (hTI k hk')
    exact hQ (Ts i) (vals i) h' s.toks rfl (tup i hi) ⟨⟨hi, rfl⟩, hit', st.2.1.to fun o e => hs'.extBut _ _ hne e, tup⟩ fun b o hb e => hs'.extBut b o (fun h => hb (by simp [h])) e
  go := fun _ _ _ _ _ s Q _ hm hQ => wpAny_letOwnedTupleGo_listiter hm.2.1 (hQ s.heap hm.2 fun _ _ _ e => e)
  apart := fun j T _ hm hmem => by
    rcases List.mem_cons.mp hmem with e | e
    · exact hTI j hm.1.1 (hm.1.2 ▸ e)
    · cases e
  done := fun s Q E st hQ => acc_end hh st.1 st.2.1 (by simp) fun h' he' => hQ h' s.toks fun b o hb e => he' b o (fun h => hb (by simp [h])) e
  self := fun _ _ _ _ st hQ => wpAny_pyIter_listiter st.1 hQ
end
theorem k_iter (P : Params) : findIn (hd.heap_1 P) (.ref 150) "__iter__" = some (some (.builtin "list.__iter__")) := by kernel_rfl
section
variable {w : World} {A : Around} {E : Value → Shared → Prop} {s : Shared} {x dx : Addr} {its : Array Value} {n : Nat} {o : Obj}
theorem acc_iter {Q : Value → Shared → Prop} (X : (hd.heap_1 w.params).In s.heap) (h1 : s.heap.get? x = some (accObj dx its n)) (h2 : s.heap.get? dx = some o)
    (hQ : Q (.ref s.heap.objs.size) { s with heap := s.heap.push { cls := .type "list_iterator", data := .fields #[.ref x, .int 0 0] } }) :
    wpAny (model Challenge.rw_re0104_01.row.prog w) A (pyIter (.ref x)) Q E s := by
  have I := accInst h1 h2
  have fin : wpAny (model Challenge.rw_re0104_01.row.prog w) A (call (.builtin "list.__iter__") [.ref x]) (fun it s' => (∃ T' r, s'.TypeIs it T' ∧ typeLookup (.type T') "__next__" = pure (some r)) ∧ Q it s') E s := by
    refine call_sub (owner := "list") (n := "__iter__") (.inl (by decide +kernel)) (by decide +kernel) (by decide +kernel) entry_list_iter (acc_isList X h1 h2) (args_list_iter _) ?_
    show wpAny _ _ (do ret (← newFields "list_iterator" [.ref x, rawInt 0])) _ _ s
    exact wpAny_bind (wpAny_newObj_type (wpAny_pure ⟨_, rfl, ⟨"list_iterator", _, ⟨_, Heap.get?_push_size _ rfl, rfl⟩, slot_listiter_next.lookup⟩, hQ⟩))
  unfold pyIter
  refine wpAny_bind (wpAny_bind (I.type.here ((looks_findIn X (k_iter _)).here ?_)))
  show wpAny _ A (callSpecialIfBoundUnlessNone? (.ref x) "__iter__" _ >>= _) Q E s
  simp only [callSpecialIfBoundUnlessNone?, bindSpecialIfBound?]
  refine wpAny_bind (wpAny_holding (wpAny_bind (wpAny_bind (wpAny_bind (I.type.here ((looks_findIn X (k_iter _)).here ?_))))))
  simp only [slot_list_iter.bind]
  refine wpAny_bind (wpAny_askSetting (wpAny_ite ?_))
  have back : ∀ {refuse : Sem Value}, wpAny (model Challenge.rw_re0104_01.row.prog w) A (if (Value.builtin "list.__iter__" == Value.none) = true then (refuse >>= fun v => pure (some v)) else (call (.builtin "list.__iter__") [.ref x] >>= fun v => pure (some v)))
      (fun r s' => ∃ it, r = some it ∧ (∃ T' r, s'.TypeIs it T' ∧ typeLookup (.type T') "__next__" = pure (some r)) ∧ Q it s') E s := by
    intro refuse
    simp only [builtin_beq_none, Bool.false_eq_true, if_false]
    exact wpAny_bind (wpAny_mono fin (fun v s' h' => wpAny_pure ⟨v, rfl, h'⟩) fun _ _ h' => h')
  have post : ∀ (r : Option Value) s', (∃ it, r = some it ∧ (∃ T' r, s'.TypeIs it T' ∧ typeLookup (.type T') "__next__" = pure (some r)) ∧ Q it s') →
      wpAny (model Challenge.rw_re0104_01.row.prog w) A (match r with
        | some it => specialOf it "__next__" >>= fun r => match r with
          | none => (do rule "iter.non-iterator"; raiseError "TypeError" s!"iter() returned non-iterator of type '{← typeNameOf it}'")
          | some _ => pure it
        | none => bindSpecialIfBound? (.ref x) "__getitem__" >>= fun r => match r with
          | none => (do rule "iter.not-iterable"; raiseError "TypeError" s!"'{← typeNameOf (.ref x)}' object is not iterable")
          | some _ => (do rule "iter.getitem-fallback"; newFields "iterator" [.ref x, ← mkInt 0])) Q E s' := by
    rintro r s' ⟨it, rfl, ⟨T', r', hT', hl⟩, hq⟩
    exact wpAny_bind (wpAny_specialOf hT' hl (wpAny_pure hq))
  split
  · exact wpAny_bind (wpAny_pure (wpAny_pure (wpAny_mono back (fun r s' h => post r s' h) fun _ _ e => e)))
  · exact wpAny_tryCatch (wpAny_bind (wpAny_pure (wpAny_pure (wpAny_mono back (fun r s' h => post r s' h) fun _ _ e => e))))
end
end Mine
end
-- CGen
section
open PySem PySem.W PyProof.Rows PySem.Calls
set_option maxRecDepth 100000
set_option maxHeartbeats 4000000
namespace Mine
section
variable {prog : Program} {w : World} {M : Model} {A : Around} {E : Value → Shared → Prop} {s : Shared} {h₀ : Heap} {L c P : Addr} {m mg mb : Str → Option Value} {p : Program} {loose : List Str} {mean : ExcName → Option Value} {rest : Ledg} {line col : Nat} {q : Str} {ps : Array Value} {ex : Ledg}
theorem gcode_hit {env : Env} {pos : Pos} {cv : Value} {qn : Str} {scope : Scope} {Q : Value → Shared → Prop} (hc : env.code = .ref c) (hok : s.heap.IsCode c P ps) (hf : codeAmong pos ps.toList = some cv) (h : Q cv s) : wpAny M A (genexprCode env pos qn scope) Q E s := by
  obtain ⟨o, vs, file, tf, flags, tg, inF, text, tt, op, ho, hd, h11, h2, h7, h9, h10, hop, hpd, htr, hne⟩ := id hok
  unfold genexprCode codeAt
  rw [hc, if_neg (show ¬ ((Value.ref c == Value.none) = true) from Bool.false_ne_true)]
  refine wpAny_bind (wpAny_fieldsOf ho hd ?_)
  rw [h11]
  refine wpAny_bind (wpAny_fieldsOf hop hpd ?_)
  rw [hf]
  exact wpAny_pure h
theorem gcode {env : Env} {pos : Pos} {scope : Scope} {Q : Value → Shared → Prop} (F : Fr h₀ L s.heap m) (N : News h₀ L s.heap (((P, tabObj ps) :: ex) ++ rest)) (C : CodeHd h₀ c P) (hc : env.code = .ref c) (tab : Tab pos.line pos.col q ps ex) (hr : ∀ b ∈ rest, b.1 ≠ P)
    (h : ∀ c' h' tk ps' ex', Heap.ExtBut P s.heap h' → Fr h₀ L h' m → News h₀ L h' (((P, tabObj ps') :: ex') ++ rest) → Tab pos.line pos.col q ps' ex' → s.heap.objs.size ≤ h'.objs.size → (∀ b ∈ ex', b ∈ ex ∨ s.heap.objs.size ≤ b.1) → Q (.ref c') { s with heap := h', toks := tk }) :
    wpAny M A (genexprCode env pos q scope) Q E s := by
  have hm := N (P, tabObj ps) (.head _)
  have Cs := C.keeps F.keep
  cases tab with
  | @some cc oc vs t hd hv =>
    have ht : TriplesOk #[rawInt (pos.line : Int), rawInt (pos.col : Int), Value.ref cc].toList := by kn_triples
    refine gcode_hit hc (Cs.code hm.1 ht) (cv := .ref cc) (by simp [codeAmong, rawInt]) ?_
    exact h cc s.heap s.toks _ _ (Heap.ExtBut.refl _ _) F N (.some hd hv) (Nat.le_refl _) (fun b hb => .inl hb)
  | none =>
    refine wpAny_genexprCodeX hc (Cs.code hm.1 trivial) (Cs.tab hm.1) rfl fun c' h' tk hx hge hlt hcode hrec htab _ => ?_
    obtain ⟨c₂, oc, vs, t, e2, hoc, hd, hv⟩ := hrec
    cases e2
    have hLs : L < s.heap.objs.size := F.ns.lt
    have hLc : L < c' := Nat.lt_of_lt_of_le hLs hge
    have old : ∀ b o, h₀.get? b = some o → h'.get? b = some o := fun b o e => hx b o (fun q => by rw [q, hm.2.2] at e; cases e) (F.keep b o e)
    have hsz : s.heap.objs.size ≤ h'.objs.size := Nat.le_trans hge (Nat.le_of_lt hlt)
    refine h c' h' tk _ [(c', oc)] hx ⟨F.ns.extBut hx hm.2.1.symm, old, F.above⟩ (fun b hb => ?_) (.some hd hv) hsz (fun b hb => .inr (by rw [List.mem_singleton.mp hb]; exact hge))
    simp only [List.cons_append, List.nil_append] at hb
    rcases List.mem_cons.mp hb with rfl | hb
    · exact ⟨htab.2, hm.2⟩
    · rcases List.mem_cons.mp hb with rfl | hb
      · exact ⟨hoc, Nat.ne_of_gt hLc, Heap.get?_none_of_le (Nat.le_trans F.above (Nat.le_of_lt hLc))⟩
      · have n := N b (by simp [hb])
        exact ⟨hx _ _ (hr b hb) n.1, n.2⟩
end
/-- a generator that stands ready -/
def GenK (prog : Program) (w : World) (A : Around) (h₀ : Heap) (L a : Addr) (n : Nat) (Fp : Nat → Value → Prop) (news : Ledg) (s : Shared) : Prop :=
  ∃ fp wr g St, WalksS prog w A.in4 a fp wr (GenOnlyQ g) n Fp St ∧ St 0 s ∧ (∀ i s', St i s' → s'.TypeIs (.ref a) "generator") ∧ a ∈ fp ∧ (∀ b ∈ fp, b < s.heap.objs.size) ∧ (∀ b ∈ wr, L < b ∧ ∀ p ∈ news, p.1 ≠ b)
theorem passing_all (n : Nat) : passing (fun _ => true) n 0 = List.range n := by simp [passing]
section
variable {w : World} {A : Around} {E : Value → Shared → Prop} {s : Shared} {h₀ : Heap} {L c P x dx f : Addr} {m mg mb : Str → Option Value} {p : Program} {loose : List Str} {mean : ExcName → Option Value} {rest : Ledg} {q : Str} {ps : Array Value} {ex : Ledg}
abbrev PRG : Program := Challenge.rw_re0104_01.row.prog
theorem gen_K {name : Str} {fsc scope : Scope} {cl : List (Str × Addr)} {elt : Expr} {xa xb y : Str} {pa pb pt py pos : Pos} {kt n : Nat} {its : Array Value} {o : Obj} {Ts : Nat → Addr} {va vb : Nat → Value} {Fp : Nat → Value → Prop} {Q : Value → Shared → Prop}
    (F : Fr h₀ L s.heap m) (X : (hd.heap_1 w.params).In h₀) (N : News h₀ L s.heap (((P, tabObj ps) :: ex) ++ rest)) (T : Top p loose mean mg mb h₀) (C : CodeHd h₀ c P) (tab : Tab pos.line pos.col (name ++ ".<locals>." ++ "<genexpr>") ps ex) (hr : ∀ b ∈ rest, b.1 ≠ P) (hG : AllBare s.gens)
    (hh : A.handled = none) (hy : m y = some (.ref x)) (hx : (x, accObj dx its n) ∈ rest) (hdx : (dx, o) ∈ rest) (ht : ∀ j, j < its.size → its[j]? = some (.ref (Ts j)) ∧ (Ts j, tup2 (va j) (vb j)) ∈ rest)
    (hroom : A.depth < recursionLimit) (hco : scope.isCoroutine = false) (hclos : closureFor scope (envX name fsc L f (.ref c) cl) = pure []) (hcell : ∀ y ∈ scope.names, y.2 ≠ .cell) (h0 : scope.names.lookup (".0" : Str) = some NameKind.local)
    (hxa : scope.names.lookup xa = some .local) (hxb : scope.names.lookup xb = some .local) (hab : xa ≠ xb) (hkind : scope.kind = .function) (hfk : fsc.kind = .function) (hyl : fsc.names.lookup y = some .local) (hyd : (y == ("__debug__" : Str)) = false)
    (g2 : ∀ (Cl : Addr) (code : Value) (A' : Around) E' (i : Nat) (u : Shared) m₂, A'.handled = none → i < its.size → Fr h₀ Cl u.heap m₂ → m₂ xa = some (va i) → m₂ xb = some (vb i) →
      wpAny (model PRG w) A' (eval elt (genEnv scope [] Cl code builtinsNs (envX name fsc L f (.ref c) cl))) (fun y s₃ => Fp i y ∧ Keeps u s₃) E' u)
    (h : ∀ a ps' ex' h' tk gs, Fr h₀ L h' m → News h₀ L h' (((P, tabObj ps') :: ex') ++ rest) → Tab pos.line pos.col (name ++ ".<locals>." ++ "<genexpr>") ps' ex' → AllBare gs →
      GenK PRG w A h₀ L a its.size (fun j y => j < its.size ∧ Fp j y) (((P, tabObj ps') :: ex') ++ rest) { s with heap := h', toks := tk, gens := gs } → Q (.ref a) { s with heap := h', toks := tk, gens := gs }) :
    wpAny (model PRG w) A (eval (.GeneratorExp elt [⟨.Tuple [.Name xa pa, .Name xb pb] kt pt, .Name y py, [], 0⟩] scope pos) (envX name fsc L f (.ref c) cl)) Q E s := by
  have hm := N (P, tabObj ps) (.head _)
  have nx := N (x, accObj dx its n) (List.mem_append_right _ hx)
  have ndx := N (dx, o) (List.mem_append_right _ hdx)
  have nT : ∀ j, j < its.size → s.heap.IsTuple (Ts j) #[va j, vb j] := fun j hj => ⟨_, (N _ (List.mem_append_right _ (ht j hj).2)).1, rfl, _, rfl⟩
  have hlt : x < s.heap.objs.size := Heap.lt_size nx.1
  have hxP : x ≠ P := hr _ hx
  have hTP : ∀ j, j < its.size → Ts j ≠ P := fun j hj => hr _ (ht j hj).2
  have hTlt : ∀ j, j < its.size → Ts j < s.heap.objs.size := fun j hj => by obtain ⟨_, e, _⟩ := nT j hj; exact Heap.lt_size e
  have hPlt : P < s.heap.objs.size := Heap.lt_size hm.1
  have hlim : s.heap.NoLimit := T.nolimit.keeps F.keep
  have hLlt : L < s.heap.objs.size := F.ns.lt
  refine wpAny_GeneratorExp_walksQTD hh hco hclos hcell h0 hxa hxb hab hkind hroom (ldG F.ns hy ?_ hfk hyl hyd) (fun _ => rfl)
  refine acc_iter (X.keeps F.keep) nx.1 ndx.1 ⟨hlim.push _, ?_⟩
  generalize hs1 : s.heap.push { cls := .type "list_iterator", data := .fields #[.ref x, .int 0 0] } = h1
  have k1 : ∀ b o, s.heap.get? b = some o → h1.get? b = some o := fun b o e => hs1 ▸ Heap.get?_push_of_some _ e
  have z1 : h1.objs.size = s.heap.objs.size + 1 := by rw [← hs1, Heap.size_push]
  have F1 : Fr h₀ L h1 m := F.keeps k1
  have N1 : News h₀ L h1 (((P, tabObj ps) :: ex) ++ rest) := fun b hb => ⟨k1 _ _ (N b hb).1, (N b hb).2⟩
  have iter1 : h1.IsListIter s.heap.objs.size x 0 := hs1 ▸ ⟨_, Heap.get?_push_size _ rfl, rfl, rfl⟩
  refine gcode (s := { s with heap := h1 }) F1 N1 C rfl tab hr fun c' h3 tk3 ps' ex' hx3 F3 N3 tab' hz3 hex => ?_
  have hz3' : h1.objs.size ≤ h3.objs.size := hz3
  have hz4 : s.heap.objs.size ≤ h3.objs.size := Nat.le_trans (z1 ▸ Nat.le_succ _) hz3'
  have hex' : ∀ b ∈ ex', b ∈ ex ∨ h1.objs.size ≤ b.1 := hex
  have hx3' : Heap.ExtBut P h1 h3 := hx3
  obtain ⟨bm, ob, b1, b2, b3, b4, b5, b6⟩ := T.bmain
  refine wpAny_builtinsFor (globals := mainGlobals) (T.g.keeps F3.keep) b1 b2 (F3.keep _ _ b3) b4 b5 b6 ?_
  have hIP : s.heap.objs.size ≠ P := Nat.ne_of_gt hPlt
  have hl3 : h3.NoLimit := T.nolimit.keeps F3.keep
  have hclt : cStatics < h₀.objs.size := let ⟨_, hn, _⟩ := T.nolimit; hn.lt
  have W := fun (A' : Around) (hA : A'.handled = none) => (walksAcc (prog := PRG) (w := w) hA s.heap.objs.size x (Nat.ne_of_lt hlt) its Ts (fun j => #[va j, vb j]) (fun j hj => (ht j hj).1) fun j hj => Nat.ne_of_lt (hTlt j hj)).bound
  have keep3 : ∀ b o, b ≠ P → s.heap.get? b = some o → h3.get? b = some o := fun b o hb e => hx3' b o hb (k1 b o e)
  refine ⟨s.heap.objs.size, _, _, _, _, _, _, (fun _ => true), Fp, rfl, W, fun i vals hv => ⟨va i, vb i, hv.2⟩, ?_, ?_, hl3, ?_, ?_, ?_⟩
  · exact ⟨let ⟨o, e, r⟩ := iter1; ⟨o, hx3' _ _ hIP e, r⟩, ⟨_, keep3 _ _ hxP nx.1, _, rfl⟩, fun k hk => (nT k hk).at fun o e => keep3 _ o (hTP k hk) e⟩
  · intro b hb
    have hb' : b < s.heap.objs.size + 1 := by
      rcases List.mem_cons.mp hb with rfl | hb
      · exact Nat.lt_succ_self _
      · rcases List.mem_cons.mp hb with rfl | hb
        · exact Nat.lt_succ_of_lt hlt
        · obtain ⟨k, hk, rfl⟩ := List.mem_map.mp hb
          exact Nat.lt_succ_of_lt (hTlt k (List.mem_range.mp hk))
    exact Nat.lt_of_lt_of_le (z1 ▸ hb') hz3'
  · intro hb
    have e : cStatics = s.heap.objs.size := by simpa using hb
    exact absurd (e ▸ Nat.lt_of_lt_of_le hclt F.above) (Nat.lt_asymm hLlt)
  · intro href hhref
    refine ⟨fun A' E' i wa wb u m₂ hA _ _ hP hn hma hmb hk => ?_, fun A' E' i wa wb u m₂ hA _ _ hP _ hn hma hmb hk => ?_⟩
    · exact wpAny_pure ⟨rfl, _, _, rfl, fun _ _ e => e⟩
    · obtain ⟨hi, hv⟩ := hP
      obtain ⟨rfl, rfl⟩ : wa = va i ∧ wb = vb i := by simpa using congrArg Array.toList hv
      refine g2 _ _ A' E' i u m₂ hA hi ⟨hn, fun b o e => ?_, ?_⟩ hma hmb
      · have hb3 := F3.keep b o e
        have hb0 : b < h₀.objs.size := Heap.lt_size e
        refine hk b (List.mem_range.mpr (Heap.lt_size hb3)) ?_ o (hhref b o hb3)
        intro hm'
        have e' : b = s.heap.objs.size := by simpa using hm'
        exact absurd (e' ▸ Nat.lt_of_lt_of_le hb0 F.above) (Nat.lt_asymm hLlt)
      · exact Nat.le_trans F.above (Nat.le_trans (Nat.le_of_lt hLlt) hz4)
  · intro a h5 tk gs hgb hag hsz5 hk5 W5 hat
    have F5 : Fr h₀ L h5 m := F3.keeps hk5
    have N5 : News h₀ L h5 (((P, tabObj ps') :: ex') ++ rest) := fun b hb => ⟨hk5 _ _ (N3 b hb).1, (N3 b hb).2⟩
    have F' : (fun j y => ∃ i, (passing (fun _ => true) its.size 0)[j]? = some i ∧ Fp i y) = (fun j y => j < its.size ∧ Fp j y) := by
      funext j y
      rw [passing_all]
      refine propext ⟨?_, ?_⟩
      · rintro ⟨i, hi, hf⟩
        obtain ⟨h1, h2⟩ := List.getElem?_eq_some_iff.mp hi
        simp at h1 h2
        subst h2
        exact ⟨h1, hf⟩
      · rintro ⟨hj, hf⟩
        exact ⟨j, by simp [hj], hf⟩
    have W6 := W5
    rw [F'] at W6
    have e : (passing (fun _ => true) its.size 0).length = its.size := by rw [passing_all, List.length_range]
    rw [e] at W6
    refine h a ps' ex' h5 tk _ F5 N5 tab' (hG.push hgb) ⟨_, _, _, _, W6, hat, (fun i s' st => st.1.typeIs), List.mem_cons_self, ?_, ?_⟩
    · intro b hb
      show b < h5.objs.size
      rw [hsz5]
      rcases List.mem_cons.mp hb with rfl | hb
      · exact Nat.lt_succ_self _
      · rcases List.mem_cons.mp hb with rfl | hb
        · exact Nat.lt_succ_of_lt hag
        · exact Nat.lt_succ_of_lt (Nat.lt_trans (List.mem_range.mp hb) hag)
    · intro b hb
      rcases List.mem_cons.mp hb with rfl | hb
      · exact ⟨Nat.lt_of_lt_of_le hLlt hz4, fun p hp => Nat.ne_of_lt (Heap.lt_size (N3 p hp).1)⟩
      · have e : b = s.heap.objs.size := by simpa using hb
        subst e
        refine ⟨hLlt, fun p hp => ?_⟩
        have hp' : p.1 < s.heap.objs.size ∨ h1.objs.size ≤ p.1 := by
          simp only [List.cons_append] at hp
          rcases List.mem_cons.mp hp with rfl | hp
          · exact .inl hPlt
          · rcases List.mem_append.mp hp with hp | hp
            · rcases hex' p hp with hp | hp
              · exact .inl (Heap.lt_size (N p (by simp [hp])).1)
              · exact .inr hp
            · exact .inl (Heap.lt_size (N p (by simp [hp])).1)
        rcases hp' with hp' | hp'
        · exact Nat.ne_of_lt hp'
        · exact Nat.ne_of_gt (Nat.lt_of_lt_of_le (z1 ▸ Nat.lt_succ_self _) hp')
end
end Mine
end
-- CPart
section
open PySem PySem.W PyProof.Rows PySem.Calls
set_option maxRecDepth 100000
set_option maxHeartbeats 4000000
namespace Mine
/-- a call that may make a generator -/
def CallOkG (w : World) (mean : ExcName → Option Value) (mg mb : Str → Option Value) (news : Ledg) (D : Nat) (f : Addr) (args : List Value) (Post : Value → Ledg → Prop) : Prop :=
  ∀ (dp un : Nat) (gd : Option (List Code)) (cn : Str) (cs : Scope) (a' : Addr) (ccd : Value) (cl : List (Str × Addr)) (outer : List Env) (A₀ : Around) (base h₀ : Heap) (L : Addr) (m : Str → Option Value) (s : Shared) (Q E : Value → Shared → Prop),
    Below A₀ base outer h₀ → Fr h₀ L s.heap m → (hd.heap_1 w.params).In h₀ → News h₀ L s.heap news → Top topProg LO mean mg mb h₀ → cs.kind = .function →
    dp + D < recursionLimit → un + 8 * D < cLine → AllBare s.gens →
    (∀ (r : Value) (news' : Ledg) (h' : Heap) (tk' : Nat) (gs' : Array GenState), Fr h₀ L h' m → News h₀ L h' news' → Back news s.heap h' news' → AllBare gs' → Post r news' → Q r { s with heap := h', toks := tk', gens := gs' }) →
      wpAny (model Challenge.rw_re0104_01.row.prog w) (ktrTop dp un gd cn cs L a' ccd cl outer) (call (.ref f) args) Q E s
theorem CallOkG.use {w : World} {mean : ExcName → Option Value} {mg mb : Str → Option Value} {news : Ledg} {D : Nat} {f : Addr} {args : List Value} {Post : Value → Ledg → Prop} (C : CallOkG w mean mg mb news D f args Post)
    {dp un : Nat} {gd : Option (List Code)} {cn : Str} {cs : Scope} {a' : Addr} {ccd : Value} {cl : List (Str × Addr)} {outer : List Env} {A₀ : Around} {base h₀ : Heap} {L : Addr} {m : Str → Option Value} {s : Shared} {Q E : Value → Shared → Prop}
    (B : Below A₀ base outer h₀) (F : Fr h₀ L s.heap m) (X : (hd.heap_1 w.params).In h₀) (N : News h₀ L s.heap news) (T : Top topProg LO mean mg mb h₀) (hk : cs.kind = .function)
    (hd : dp + D < recursionLimit) (hu : un + 8 * D < cLine) (hG : AllBare s.gens)
    (ret : ∀ (r : Value) (news' : Ledg) (h' : Heap) (tk' : Nat) (gs' : Array GenState), Fr h₀ L h' m → News h₀ L h' news' → Back news s.heap h' news' → AllBare gs' → Post r news' → Q r { s with heap := h', toks := tk', gens := gs' }) :
      wpAny (model Challenge.rw_re0104_01.row.prog w) (ktrTop dp un gd cn cs L a' ccd cl outer) (call (.ref f) args) Q E s :=
  C _ _ _ _ _ _ _ _ _ _ _ _ _ _ _ _ _ B F X N T hk hd hu hG ret
theorem tj (sep : Str) (l : List Str) : Txt.join sep l = Str.join sep l := StrLaws.glued_eq_join sep l
theorem join0_cps : ∀ l : List Str, (Txt.join Str.empty l).cps.toList = (l.map fun x => x.cps.toList).flatten
  | [] => by rw [tj]; rfl
  | [x] => by rw [tj]; show x.cps.toList = _; simp
  | x :: y :: r => by
    have ih := join0_cps (y :: r)
    rw [tj] at ih ⊢
    show (x ++ Str.empty ++ Str.join Str.empty (y :: r)).cps.toList = _
    rw [Str.cps_append, Str.cps_append, Array.toList_append, Array.toList_append, ih]
    show x.cps.toList ++ [] ++ _ = _
    rw [List.append_nil]
    rfl
theorem str_len' (x : Str) : x.length = x.cps.toList.length := by rw [Array.length_toList]; rfl
theorem join2_len (a b : Str) : (Txt.join Str.empty [a, b]).length = a.length + b.length := by
  rw [str_len', join0_cps, str_len' a, str_len' b]; simp
/-- what a row holds: each part's tuple, its two texts -/
structure Part where
  at_ : Addr
  a : Str
  ta : Tok
  b : Str
  tb : Tok
abbrev rIts (R : List Part) : List Value := R.map fun p => .ref p.at_
abbrev rLed (R : List Part) : Ledg := R.map fun p => (p.at_, tup2 (.str p.a p.ta) (.str p.b p.tb))
def part0 : Part := ⟨0, Str.empty, 0, Str.empty, 0⟩
theorem partAt (R : List Part) (j : Nat) (h : j < R.length) : R.getD j part0 = R[j] := by rw [List.getD_eq_getElem?_getD, List.getElem?_eq_getElem h]; rfl
def rTxt (R : List Part) : List Str := R.map fun p => Txt.join Str.empty [p.a, p.b]
theorem CallOkG.frame {w : World} {mean : ExcName → Option Value} {mg mb : Str → Option Value} {news : Ledg} {D : Nat} {f : Addr} {args : List Value} {Post : Value → Ledg → Prop} (C : CallOkG w mean mg mb news D f args Post) (rest : Ledg)
    (hdis : ∀ h₀ L h, News h₀ L h (news ++ rest) → ∀ p ∈ rest, p.1 ∉ news.map (·.1)) :
    CallOkG w mean mg mb (news ++ rest) D f args (fun r nw => ∃ news', nw = news' ++ rest ∧ (∀ p ∈ news', ∀ q ∈ rest, p.1 ≠ q.1) ∧ Post r news') := by
  intro dp un gd cn cs a' ccd cl outer A₀ base h₀ L m s Q E B F X N T hk hdp hun hG hret
  have hd := hdis _ _ _ N
  refine C.use B F X (fun p hp => N p (List.mem_append_left _ hp)) T hk hdp hun hG fun r news' h' tk' gs' F' N' K' G' hp => ?_
  exact hret r (news' ++ rest) h' tk' gs' F' (K'.news N N' hd) (K'.frame N) G' ⟨news', rfl, K'.apart N hd, hp⟩
def WhileStepG (h₀ : Heap) (L : Addr) (s : Shared) (J : Nat → (Str → Option Value) → Ledg → Prop) (n : Nat) (f : Flow) (s₃ : Shared) : Prop :=
  f = .next ∧ ∃ h' tk gs m₂ news₂ n', s₃ = { s with heap := h', toks := tk, gens := gs } ∧ Fr h₀ L h' m₂ ∧ News h₀ L h' news₂ ∧ AllBare gs ∧ n' < n ∧ J n' m₂ news₂
section
variable {prog : Program} {w : World} {A : Around} {E : Value → Shared → Prop} {Q : Flow → Shared → Prop} {s : Shared} {env : Env} {h₀ : Heap} {L : Addr}
theorem While_invG {test : Expr} {body : List Stmt} {pos : Pos} {m : Str → Option Value} {news : Ledg} (J : Nat → (Str → Option Value) → Ledg → Prop) {n₀ : Nat}
    (F : Fr h₀ L s.heap m) (N : News h₀ L s.heap news) (G : AllBare s.gens) (hJ : J n₀ m news)
    (turn : ∀ n m₁ news₁ h₁ tk₁ gs₁, Fr h₀ L h₁ m₁ → News h₀ L h₁ news₁ → AllBare gs₁ → J n m₁ news₁ →
      wpAny (model prog w) A (isTrue test env (eval test env)) (fun b s₂ =>
        if b = true then wpAny (model prog w) A (execs body env) (WhileStepG h₀ L s J n) E s₂ else Q .next s₂) E { s with heap := h₁, toks := tk₁, gens := gs₁ })
    (hE : PassesOwn (model prog w) A env E := by passes_own) :
    wpAny (model prog w) A (exec (.While test body [] pos) env) Q E s := by
  refine wpAny_While (codeAny_whileLoop (fun n s' => ∃ h₁ tk₁ gs₁ m₁ news₁, s' = { s with heap := h₁, toks := tk₁, gens := gs₁ } ∧ Fr h₀ L h₁ m₁ ∧ News h₀ L h₁ news₁ ∧ AllBare gs₁ ∧ J n m₁ news₁) ?_ n₀ ⟨s.heap, s.toks, s.gens, m, news, rfl, F, N, G, hJ⟩)
  rintro n s' ⟨h₁, tk₁, gs₁, m₁, news₁, rfl, F₁, N₁, G₁, J₁⟩
  refine wpAny_mono (turn n m₁ news₁ h₁ tk₁ gs₁ F₁ N₁ G₁ J₁) (fun b s₂ h₂ => ?_) hE
  cases b with
  | false =>
    simp only [Bool.false_eq_true, if_false] at h₂ ⊢
    exact wpAny_execs_nil h₂
  | true =>
    simp only [if_true] at h₂ ⊢
    refine wpAny_mono h₂ (fun f s₃ h₃ => ?_) hE
    obtain ⟨rfl, h', tk, gs, m₂, news₂, n', rfl, F₂, N₂, G₂, hn, J₂⟩ := h₃
    exact ⟨n', hn, h', tk, gs, m₂, news₂, rfl, F₂, N₂, G₂, J₂⟩
end
end Mine
end
-- CStr
section
open PySem PySem.W PyProof.Rows PySem.Calls
set_option maxRecDepth 100000
set_option maxHeartbeats 4000000
namespace Mine
theorem off15 : True := by
  w_top off
  k_with_none
  exact trivial
theorem fill22 : (Challenge.rw_re0104_01, hd.heap_1) = (Challenge.rw_re0104_01, hd.heap_1) := by
  k_fill
  rfl
section
variable {w : World} {A : Around} {E : Value → Shared → Prop} {s : Shared} {h₀ : Heap} {L : Addr} {m : Str → Option Value} {news : Ledg}
theorem joinK {a : Addr} {n : Nat} {Fp : Nat → Value → Prop} {sep : Str} {t : Tok} {Q : Value → Shared → Prop} (F : Fr h₀ L s.heap m) (N : News h₀ L s.heap news) (hG : AllBare s.gens) (X : GenK PRG w A h₀ L a n Fp news s) (tx : Nat → Str) (htx : ∀ j v, Fp j v → ∃ u, v = .str (tx j) u)
    (hok : JoinOk sep ((List.range n).map tx) = true) (hn : n ≤ sizeLine)
    (h : ∀ h' tk gs t', Fr h₀ L h' m → News h₀ L h' news → AllBare gs → Q (.str (Txt.join sep ((List.range n).map tx)) t') { s with heap := h', toks := tk, gens := gs }) :
    wpAny (model PRG w) A (call (.builtin "str.join") [.str sep t, .ref a]) Q E s := by
  refine hideG ?_; intro HP back; obtain ⟨fp, wr, g, St, W, hst, hT, ha, hfp, hwr⟩ := X; refine back ?_; clear back HP
  have W := W.in4_2
  refine SC.joinGen W hT hst hfp ha (fun j v hv => let ⟨u, e⟩ := htx j v hv; ⟨_, u, e⟩) (fun s' lt hm hacc => ?_) hn
  have hl : lt.map (·.1) = (List.range n).map tx := by
    apply List.ext_getElem?
    intro j
    have hsz : lt.length = n := by simpa [strValues] using hacc.1
    by_cases hj : j < n
    · have hj' : j < lt.length := hsz ▸ hj
      obtain ⟨u, hv⟩ := htx j _ (hacc.2 j (.str lt[j].1 lt[j].2) (by simp [strValues, List.getElem?_eq_getElem hj']))
      injection hv with h1 _
      simp [List.getElem?_eq_getElem hj', hj, h1]
    · rw [List.getElem?_eq_none (by simpa [hsz] using Nat.le_of_not_lt hj), List.getElem?_eq_none (by simpa using Nat.le_of_not_lt hj)]
  rw [hl]
  have f1 : Fr h₀ L s'.heap m := F.moved hm fun b hb => (hwr b hb).1
  have g1 : AllBare s'.gens := hG.movedS hm
  have n1 : News h₀ L s'.heap news := fun p hp => ⟨hm.heap _ _ (fun hb => (hwr _ hb).2 p hp rfl) (N p hp).1, (N p hp).2⟩
  refine hideG ?_; intro HP back; obtain ⟨hh', gs', d', tk', os'⟩ := s'; refine back ?_; clear back HP
  have hd := hm.drawn
  have ho := hm.os
  dsimp only at hd ho
  subst hd ho
  exact ⟨hok, fun t' k => h hh' k gs' t' f1 n1 g1⟩
end
theorem codeHd_str {P : Params} {h : Heap} (X : (hd.heap_1 P).In h) : CodeHd h 123 119 := codeHd_of_K X (by kernel_rfl)
theorem k_fstr (P : Params) : findIn (hd.heap_1 P) (.ref 150) "__str__" = some (some (.ref 124)) := by kernel_rfl
theorem k_empty (P : Params) : ∃ t, nsIn (hd.heap_1 P) mainGlobals "EMPTYSTRING" = some (some (.str Str.empty t)) := ⟨_, by k_is⟩
theorem keeps_trans {s s1 s2 : Shared} (a : Keeps s s1) (b : Keeps s1 s2) : Keeps s s2 := by
  refine hideG ?_; intro HP back; obtain ⟨h1, t1, rfl, k1⟩ := a; refine back ?_; clear back HP
  refine hideG ?_; intro HP back; obtain ⟨h2, t2, rfl, k2⟩ := b; refine back ?_; clear back HP
  exact ⟨h2, t2, rfl, fun b o e => k2 b o (k1 b o e)⟩
section
variable {w : World} {A : Around} {E : Value → Shared → Prop} {u : Shared} {h₀ : Heap} {C : Addr} {m mg mb : Str → Option Value} {p : Program} {loose : List Str} {mean : ExcName → Option Value} {env : Env}
theorem elt_str {p1 p2 p3 p4 p5 p6 : Pos} {kt : Nat} {xa xb : Str} {a b : Str} {ta tb : Tok} (F : Fr h₀ C u.heap m) (X : (hd.heap_1 w.params).In h₀) (T : Top p loose mean mg mb h₀) (hC : env.locals = C) (hg : env.globals = mainGlobals) (hk : env.scope.kind = .function)
    (hx : env.kindOf (Str.ofString "EMPTYSTRING") = some .globalImplicit) (hla : env.scope.names.lookup xa = some .local) (hlb : env.scope.names.lookup xb = some .local) (hda : (xa == ("__debug__" : Str)) = false) (hdb : (xb == ("__debug__" : Str)) = false)
    (ha : m xa = some (.str a ta)) (hb : m xb = some (.str b tb)) (hl : a.length < 100 ∧ b.length < 100) {pl : Sem Bool}
    (hev : eval (.Call (.Attribute (.Name (Str.ofString "EMPTYSTRING") p1) (Str.ofString "join") p2) [.Tuple [.Name xa p3, .Name xb p4] kt p5] [] p6) env = (do
      let ov ← eval (.Name (Str.ofString "EMPTYSTRING") p1) env
      standAt p2.atName
      let (f, first) ← holding [ov] (getMethod ov (Str.ofString "join") pl)
      callWith p6 f first (backTo p6 (starEach [.Tuple [.Name xa p3, .Name xb p4] kt p5] env)) [])) :
    wpAny (model PRG w) A (eval (.Call (.Attribute (.Name (Str.ofString "EMPTYSTRING") p1) (Str.ofString "join") p2) [.Tuple [.Name xa p3, .Name xb p4] kt p5] [] p6) env) (fun y s₃ => (∃ t, y = .str (Txt.join Str.empty [a, b]) t) ∧ Keeps u s₃) E u := by
  subst hC
  obtain ⟨te, he⟩ := k_empty w.params
  refine MethodCall_ ?_ hev
  refine nameG_K F X (topRead_of T) he ?_ hg hk hx (by decide)
  refine GM.join ?_
  refine callWith_method1 ?_
  refine args_cons (wpAny_Tuple (args_cons (ldG F.ns ha ?_ hk hla hda)))
  refine args_cons (ldG F.ns hb ?_ hk hlb hdb)
  refine args_nil ⟨by size_fits, args_nil ?_⟩
  refine join_tupleC (D := u.heap.objs.size) (ys := [a, b]) ⟨_, Heap.get?_push_size _ rfl, rfl, _, rfl⟩ (.cons _ _ (.cons _ _ .nil)) (by decide) ?_ ?_
  · simp only [List.map_cons, List.map_nil, List.sum_cons, List.sum_nil, List.length_cons, List.length_nil]; omega
  · intro t' k
    exact ⟨⟨t', rfl⟩, _, _, rfl, fun b o e => Heap.get?_push_of_some _ e⟩
end
theorem str_ok (w : World) (mean : ExcName → Option Value) (mg mb : Str → Option Value) (x dx : Addr) (R : List Part) (n : Nat) (dob : Obj) {ps : Array Value} {ex : Ledg} (ht : Tab 132 32 (Str.ofString "_Accumulator.__str__" ++ ".<locals>." ++ "<genexpr>") ps ex) (hR : R.length < 100) (hl : ∀ p ∈ R, p.a.length < 100 ∧ p.b.length < 100) (hP : ∀ b ∈ (x, accObj dx (rIts R).toArray n) :: (dx, dob) :: rLed R, b.1 ≠ 119) :
    CallOkG w mean mg mb (((119, tabObj ps) :: ex) ++ (x, accObj dx (rIts R).toArray n) :: (dx, dob) :: rLed R) 3 124 [.ref x]
      (fun r nw => ∃ ps' ex' t, Tab 132 32 (Str.ofString "_Accumulator.__str__" ++ ".<locals>." ++ "<genexpr>") ps' ex' ∧ nw = ((119, tabObj ps') :: ex') ++ (x, accObj dx (rIts R).toArray n) :: (dx, dob) :: rLed R ∧ r = .str (Txt.join Str.empty (rTxt R)) t) := by
  unfold CallOkG
  intro dp un gd cn cs a' ccd cl outer A₀ base h₀ L m s Q E B F X N T hk hdp hun hG hret
  refine wpAny_call ?_
  (refine' enter_K ?k1 ?k2 ?k3 ?k4 ?k5 ?kA ?kF ?kK ?k6 ?k7 ?k8 ?k9 ?kB ?_ ?c2 ?c3 ?c4 ?c5; (case kA => exact rfl); (case kF => exact rfl); (case kK => assumption); (case k1 => k_asm); (case k2 => k_asm); (case k3 => k_asm); (case k4 => k_asm); (case k5 => k_asm); (case k6 => k_is); (case k7 => k_is); (case k8 => first | exact room0 hdp | ktr_room); (case k9 => exact BindsTo.of_eq rfl); (case c5 => decide); (case kB => exact locs rfl); (case c2 => exact rfl); (case c3 => exact rfl); (case c4 => exact rfl); k_whole; intro g L' h' G FG F' N' B' X' T' l1; (try dsimp only); (try k_fold))
  k_steps
  with_reducible rename Fr _ _ _ _ => F2
  with_reducible rename News _ _ _ _ => N2
  have hsz : (rIts R).toArray.size = R.length := by simp
  refine gen_K (n := n) (dx := dx) (o := dob) (Ts := fun j => ((R.getD j part0)).at_) (va := fun j => .str (R.getD j part0).a (R.getD j part0).ta) (vb := fun j => .str (R.getD j part0).b (R.getD j part0).tb) (Fp := fun i y => ∃ t, y = .str (Txt.join Str.empty [(R.getD i part0).a, (R.getD i part0).b]) t) F2 X' N2 T' (codeHd_str X') ht hP hG rfl (x := x) rfl (.head _) (.tail _ (.head _)) ?_ (by ktr_room) rfl (by with_unfolding_all rfl) (by decide) (by with_unfolding_all rfl) (by with_unfolding_all rfl) (by with_unfolding_all rfl) (by decide) (by with_unfolding_all rfl) (by with_unfolding_all rfl) (by with_unfolding_all rfl) (by decide) ?_ ?_
  · intro j hj
    have hj' : j < R.length := hsz ▸ hj
    have e1 : (R.getD j part0) ∈ R := by rw [partAt R j hj']; exact List.getElem_mem _
    refine ⟨?_, .tail _ (.tail _ (List.mem_map.mpr ⟨_, e1, rfl⟩))⟩
    rw [List.getElem?_toArray, List.getElem?_map, List.getElem?_eq_getElem hj', partAt R j hj']
    rfl
  · intro Cl code A' E' i u m2 hA hi Fu ha hb
    have e1 : (R.getD i part0) ∈ R := by rw [partAt R i (by rw [← hsz]; exact hi)]; exact List.getElem_mem _
    exact elt_str Fu X' T' rfl rfl rfl (by with_unfolding_all rfl) (by with_unfolding_all rfl) (by with_unfolding_all rfl) (by decide) (by decide) ha hb (hl _ e1) (by with_unfolding_all rfl)
  · intro a ps' ex' h8 tk8 gs8 F8 N8 tab8 G8 X8
    clear F2 N2
    dsimp only
    k_steps
    with_reducible rename Fr _ _ _ _ => F9
    have e9 : (List.range R.length).map (fun j => Txt.join Str.empty [(R.getD j part0).a, (R.getD j part0).b]) = rTxt R := by
      apply List.ext_getElem
      · simp [rTxt]
      · intro i h1 h2
        have hi : i < R.length := by simpa using h1
        simp [rTxt, List.getElem?_eq_getElem hi]
    refine joinK F9 N8 G8 X8 (fun j => Txt.join Str.empty [(R.getD j part0).a, (R.getD j part0).b]) (fun j v hv => let ⟨_, t, e⟩ := hv; ⟨t, e⟩) ?_ ?_ ?_
    · rw [hsz, e9]
      unfold JoinOk
      rw [Bool.not_eq_true']
      refine StrLaws.joinFits (B := 200) (fun y hy => ?_) ?_
      · obtain ⟨q, hq, rfl⟩ := List.mem_map.mp hy
        rw [join2_len]
        have := hl q hq
        omega
      · have e : (Str.ofString "").length = 0 := by decide +kernel
        rw [e]
        simp only [rTxt, List.length_map]
        omega
    · rw [hsz, sizeLine_eq]; omega
    · intro h10 tk10 gs10 t10 F10 N10 G10
      rw [hsz, e9]
      clear F9 N8 X8 G8
      dsimp only
      k_steps
      with_reducible rename Fr h₀ _ _ _ => Fe
      with_reducible rename News h₀ _ _ _ => Ne
      exact hret _ _ _ _ _ Fe Ne (G.back F10 N10) G10 ⟨_, _, _, tab8, rfl, rfl⟩
end Mine
end
-- COth
section
open PySem PySem.W PyProof.Rows PySem.Calls
set_option maxRecDepth 100000
set_option maxHeartbeats 4000000
namespace Mine
/-- neither an accumulator nor a dict -/
def Oth (o : Obj) : Prop := (∃ vs, o.data = .fields vs) ∨ o.cls = .type "tuple" ∨ o.cls = .type "list" ∨ o.cls = .type "range_iterator"
theorem rLed_oth {P : List Part} : ∀ q ∈ rLed P, Oth q.2 := fun q hq => by
  obtain ⟨p, _, rfl⟩ := List.mem_map.mp hq; exact .inr (.inl rfl)
theorem acc_not_oth {dx : Addr} {its : Array Value} {n : Nat} : ¬ Oth (accObj dx its n) := by
  rintro (⟨vs, h⟩ | h | h | h) <;> cases h
theorem dob_not_oth {o : Obj} (h : OwnDict o) : ¬ Oth o := by
  obtain ⟨hs, k, tv, rfl⟩ := h.is
  rintro (⟨vs, h⟩ | h | h | h)
  · cases h
  · exact absurd (show Value.type "dict" = Value.type "tuple" from h) (by decide)
  · exact absurd (show Value.type "dict" = Value.type "list" from h) (by decide)
  · exact absurd (show Value.type "dict" = Value.type "range_iterator" from h) (by decide)
theorem dis_acc {x dx : Addr} {its : Array Value} {n : Nat} {dob : Obj} (hd : OwnDict dob) {rest : Ledg} (hr : ∀ q ∈ rest, Oth q.2) {h₀ h : Heap} {L : Addr} (N : News h₀ L h ([(x, accObj dx its n), (dx, dob)] ++ rest)) : ∀ p ∈ rest, p.1 ∉ [(x, accObj dx its n), (dx, dob)].map (·.1) := by
  intro p hp hm
  simp only [List.map_cons, List.map_nil, List.mem_cons, List.not_mem_nil, or_false] at hm
  rcases hm with e | e
  · have so := sameObj N (List.mem_append_right _ hp) (List.mem_append_left _ (.head _)) e
    exact acc_not_oth (so ▸ hr p hp)
  · have so := sameObj N (List.mem_append_right _ hp) (List.mem_append_left _ (.tail _ (.head _))) e
    have z := hr p hp
    rw [so] at z
    exact dob_not_oth hd z
theorem push_okP (w : World) (mean : ExcName → Option Value) (mg mb : Str → Option Value) (x dx : Addr) (P : List Part) (n : Nat) (dob : Obj) (a b : Str) (ta tb : Tok) (hdx : dx ≠ x) (hsh : shadowIn (some dob) "append" = some false) (hsz : (rIts P).length ≤ sizeLine) :
    CallOk w mean mg mb [(x, accObj dx (rIts P).toArray n), (dx, dob)] 3 94 [.ref x, .str a ta, .str b tb] (fun r nw => ∃ p : Part, (p.a, p.b) = (a, b) ∧ r = .none ∧ nw = [(x, accObj dx (rIts (P ++ [p])).toArray (n + 1)), (dx, dob), (p.at_, tup2 (.str p.a p.ta) (.str p.b p.tb))]) :=
  (push_ok w mean mg mb x dx (rIts P) n dob a b ta tb hdx hsh hsz).mono (Nat.le_refl _) fun r nw ⟨q, h1, h2⟩ => ⟨⟨q, a, ta, b, tb⟩, rfl, h1, by rw [h2]; simp⟩
theorem not_iter {I a : Addr} {o : Obj} {z k : Int} {h₀ h : Heap} {L : Addr} {news : Ledg} (N : News h₀ L h news) (h1 : (I, itR z k) ∈ news) (h2 : (a, o) ∈ news) (hc : o.cls = .type "tuple") : a ≠ I := by
  intro e
  have so := sameObj N h2 h1 e
  have so' : o = itR z k := so
  rw [so'] at hc
  exact absurd (show Value.type "range_iterator" = Value.type "tuple" from hc) (by decide)
end Mine
end
-- LE
section
open PySem PySem.W PyProof.Rows PySem.Calls PySem.Spec
namespace Mine
theorem off16 : True := by
  w_top off
  k_with_none
  exact trivial
set_option maxRecDepth 100000
set_option maxHeartbeats 4000000
theorem fill34 : (Challenge.rw_re0104_01, hd.heap_1) = (Challenge.rw_re0104_01, hd.heap_1) := by
  k_fill
  rfl
theorem lineLE1 : True := by
  k_with "getMethod ref" => (k_here; (with_reducible show wpAny _ _ (getMethod (Value.ref _) (PySem.Str.ofString "push") _) _ _ _); k_dflt (refine' method_fnL ?zx ?zi (k_ga _) (k_gat _) (k_mpush _) ?zt ?zs ?_; (case zx => k_in); (case zi => exact accInst (News.get (by k_asm) (by k_mem)) (News.get (by k_asm) (by k_mem))); (case zt => k_is); (case zs => first | rfl | assumption); k_whole))
  exact trivial
def pk (W : Str) (k : Nat) : Str × Str := if (k : Int).fmod 3 = 1 then (Txt.item W (k : Int), Str.ofString "") else (Str.ofString "", Txt.item W (k : Int))
def restU (H H2 : List Half) (D D2 : Addr) (t : Ledg) : Ledg := (D, listOf (hIts H).toArray 9) :: (D2, listOf (hIts H2).toArray 9) :: (hLed H ++ (hLed H2 ++ t))
theorem restU_oth {H H2 : List Half} {D D2 : Addr} {t : Ledg} (ht : Tabs t) : ∀ q ∈ restU H H2 D D2 t, Oth q.2 := by
  intro q hq
  unfold restU at hq
  simp only [List.mem_cons, List.mem_append] at hq
  rcases hq with rfl | rfl | h | h | h
  · exact .inr (.inr (.inl rfl))
  · exact .inr (.inr (.inl rfl))
  · obtain ⟨p, _, rfl⟩ := List.mem_map.mp h; exact .inr (.inl rfl)
  · obtain ⟨p, _, rfl⟩ := List.mem_map.mp h; exact .inr (.inl rfl)
  · exact .inl (ht.data q h)
/-- the row is filled -/
structure AfterE (m : Str → Option Value) (news : Ledg) : Prop where
  is : ∃ W tw H H2 D D2 t wd tp x dx dob P, W.length = 8 ∧ (∀ c ∈ W.cps.toList, 97 ≤ c ∧ c ≤ 99) ∧ m (Str.ofString "word") = some (.str W tw) ∧ 2 ≤ wd ∧ wd ≤ 12 ∧ m (Str.ofString "period") = some (.int ((perG (numOf wd W) wd 7 1 : Nat) : Int) tp) ∧
      H.map (fun p => (p.x, p.y)) = (List.range 9).map (hv (numOf wd W) wd) ∧ H2.map (fun p => (p.x, p.y)) = (List.range 9).map (hv (numOf2 wd W) wd) ∧
    Tabs t ∧ (∀ p ∈ t, p.1 ≠ 119) ∧ m (Str.ofString "halves") = some (.ref D) ∧ m (Str.ofString "turned") = some (.ref D2) ∧ m (Str.ofString "row") = some (.ref x) ∧ dx ≠ x ∧ OwnDict dob ∧ P.map (fun p => (p.a, p.b)) = (List.range 8).map (pk W) ∧
    news = (x, accObj dx (rIts P).toArray 8) :: (dx, dob) :: (119, tabObj #[]) :: (rLed P ++ restU H H2 D D2 t)
theorem phE (w : World) (next : Stretch w 12 AfterE) : Stretch w 10 AfterD := by
  unfold Stretch
  refine' atLaw_intro ?k6 ?_; (case k6 => k_is)
  refine' nextUse next ?k7 ?_; (case k7 => k_is)
  intro nx mean mg mb gh L fa cd s Q R m news CX F N G fin
  intro  hzz
  refine hideG ?_; intro HP back; obtain ⟨W, tw, H, H2, D, D2, t, wd, tp, hW, hc, e1, w1, w2, e2, hH, hH2, ht, a119, e3, e4, rfl⟩ := hzz; refine back ?_; clear back HP
  obtain ⟨X', T', B'⟩ := CX
  dsimp only [List.drop] at nx ⊢
  (try k_fold)
  rw [cn4 e1 e2 e3 e4] at F
  repeat' (first | (k_unfold; (try dsimp only)) | ((fail_if_success (with_reducible show wpAny _ _ (call (Value.ref 150) _) _ _ _)); first | walk1 | (dsimp only; walk1)))
  replace N : News gh L s.heap ((119, tabObj #[]) :: restU H H2 D D2 t) := newsSub N (fun p hp => by
    simp only [restU, List.mem_cons] at hp ⊢
    rcases hp with h | h | h | h <;> simp [h])
  refine CallOk.use ((make_ok w mean mg mb).frame ((119, tabObj #[]) :: restU H H2 D D2 t) (fun _ _ _ N p hp hm => nomatch hm)) B' F X' N T' rfl (by ktr_room) (by ktr_units) ?_
  intro r1 nw1 h1' tk1 F1 N1 K1 hr1
  refine hideG ?_; intro HP back; obtain ⟨nw2, rfl, hap, x, dx, dob, rfl, hdx, hdo, rfl⟩ := hr1; refine back ?_; clear back HP
  clear F N
  dsimp only
  repeat' (first | (k_unfold; (try dsimp only)) | ((fail_if_success (with_reducible show wpAny _ _ (exec (Stmt.For _ _ _ _ _) _) _ _ _)); first | walk1 | (dsimp only; walk1)))
  with_reducible rename Fr _ _ _ _ => F2
  with_reducible rename News _ _ _ _ => N2
  refine For_invVF F2 rfl rfl ?_
  repeat' (first | (k_unfold; (try dsimp only)) | ((fail_if_success (with_reducible show wpAny _ _ (pyIter _) (fun it s₂ => LoopAtV _ _ _ _ _ _ _ _ _ it s₂) _ _)); first | walk1 | (dsimp only; walk1)))
  with_reducible rename Fr _ _ _ _ => F3
  with_reducible rename News _ _ _ _ => N3
  with_reducible rename IsRange _ _ _ _ _ _ _ _ => R3
  refine iter_rangeUnr (n := 8) rfl R3 (by decide) (by decide +kernel) F3 N3 ?_
  intro I lI
  refine range_ind 8 (fun i m2 nw => ∃ P : List Part, P.length = i ∧ P.map (fun p => (p.a, p.b)) = (List.range i).map (pk W) ∧ m2 (Str.ofString "word") = some (.str W tw) ∧ m2 (Str.ofString "period") = some (.int ((perG (numOf wd W) wd 7 1 : Nat) : Int) tp) ∧ m2 (Str.ofString "halves") = some (.ref D) ∧ m2 (Str.ofString "turned") = some (.ref D2) ∧ m2 (Str.ofString "row") = some (.ref x) ∧
    nw = (x, accObj dx (rIts P).toArray i) :: (dx, dob) :: (119, tabObj #[]) :: (rLed P ++ restU H H2 D D2 t)) ?_ ?_ 8 0 _ _ rfl ?_
  · intro m2 nw hzz h5 tk5 F5 N5
    refine hideG ?_; intro HP back; obtain ⟨P, hPl, hP, f1, f2, f3, f4, f5, rfl⟩ := hzz; refine back ?_; clear back HP
    clear F3 N3
    dsimp only
    refine nx mean mg mb gh L fa cd _ Q R m2 _ ⟨X', T', B'⟩ F5 N5 G (fin.to _ _ _) ⟨W, tw, H, H2, D, D2, t, wd, tp, x, dx, dob, P, hW, hc, f1, w1, w2, f2, hH, hH2, ht, a119, f3, f4, f5, hdx, hdo, hP, rfl⟩
  · intro i m2 nw hi hzz t5 h5 tk5 F5 N5
    refine hideG ?_; intro HP back; obtain ⟨P, hPl, hP, f1, f2, f3, f4, f5, rfl⟩ := hzz; refine back ?_; clear back HP
    clear F3 N3
    rw [cn5 f1 f2 f3 f4 f5] at F5
    have hsh := hdo.shadow (Str.ofString "push") (by decide)
    repeat' (first | (k_unfold; (try dsimp only)) | ((fail_if_success (with_reducible show wpAny _ _ (call (Value.ref 94) _) _ _ _)); first | walk1 | (dsimp only; walk1)))
    · with_reducible rename Fr _ _ _ _ => F6
      with_reducible rename News _ _ _ _ => N6
      with_reducible rename (_ = _) => hif
      rw [Int.zero_add] at hif
      have hpk : pk W i = (Txt.item W (i : Int), Str.ofString "") := by unfold pk; rw [if_pos hif]
      rw [Int.zero_add] at *
      refine CallOk.use ((push_okP w mean mg mb x dx P i dob (Txt.item W (i : Int)) (Str.ofString "") _ _ hdx (hdo.shadow (Str.ofString "append") (by decide)) (by rw [List.length_map, sizeLine_eq]; omega)).frame ((I, itR (0 + ((i + 1 : Nat) : Int)) ((8 : Nat) - ((i + 1 : Nat) : Int))) :: (119, tabObj #[]) :: (rLed P ++ restU H H2 D D2 t)) (fun _ _ _ N => dis_acc hdo ?_ N)) B' F6 X' (newsSub N6 ?_) T' rfl (by ktr_room) (by ktr_units) ?_
      · intro q hq
        rcases List.mem_cons.mp hq with rfl | hq
        · exact .inr (.inr (.inr rfl))
        rcases List.mem_cons.mp hq with rfl | hq
        · exact .inl ⟨_, rfl⟩
        rcases List.mem_append.mp hq with hq | hq
        · exact rLed_oth q hq
        · exact restU_oth ht q hq
      · intro p hp
        simp only [List.mem_cons, List.mem_append, List.cons_append, List.nil_append] at hp ⊢
        rcases hp with h | h | h | h | h | h <;> simp [h]
      intro r1 nw1 h1' tk1 F1 N1 K1 hr1
      refine hideG ?_; intro HP back; obtain ⟨nw2, rfl, hap2, q, hq, rfl, rfl⟩ := hr1; refine back ?_; clear back HP
      clear F6 N6
      dsimp only
      repeat' (first | (k_unfold; (try dsimp only)) | ((fail_if_success (with_reducible show UnrPost _ _ _ _ _ _ _ _ _)); first | walk1 | (dsimp only; walk1)))
      refine ⟨_, _, _, (x, accObj dx (rIts (P ++ [q])).toArray (i + 1)) :: (dx, dob) :: (119, tabObj #[]) :: (rLed (P ++ [q]) ++ restU H H2 D D2 t), rfl, F1, newsSub N1 ?_, ?_, P ++ [q], ?_, ?_, rfl, rfl, rfl, rfl, rfl, rfl⟩
      · intro p hp
        simp only [List.mem_cons, List.mem_append, List.cons_append, List.nil_append, rLed, List.map_append, List.map_cons, List.map_nil, List.not_mem_nil, or_false] at hp ⊢
        rcases hp with h | h | h | h | (h | h) | h <;> simp [h]
      · intro p hp
        simp only [List.mem_cons, List.mem_append, rLed, List.map_append, List.map_cons, List.map_nil, List.not_mem_nil, or_false] at hp
        rcases hp with rfl | rfl | rfl | (h | rfl) | h
        · exact hap2 _ (.head _) _ (.head _)
        · exact hap2 _ (.tail _ (.head _)) _ (.head _)
        · exact Nat.ne_of_lt (lI (119, tabObj #[]) (by simp))
        · obtain ⟨p', hp', rfl⟩ := List.mem_map.mp h
          refine not_iter N1 (I := I) (List.mem_append_right _ (.head _)) (List.mem_append_right _ (.tail _ (.tail _ (List.mem_append_left _ h)))) rfl
        · exact hap2 _ (.tail _ (.tail _ (.head _))) _ (.head _)
        · exact Nat.ne_of_lt (lI p (List.mem_append_right _ (.tail _ h)))
      · rw [List.length_append, hPl]; rfl
      · rw [List.map_append, hP, List.range_succ, List.map_append, List.map_singleton, List.map_singleton, hpk, hq]
    · with_reducible rename Fr _ _ _ _ => F6
      with_reducible rename News _ _ _ _ => N6
      with_reducible rename (_ ≠ _) => hif
      rw [Int.zero_add] at hif
      have hpk : pk W i = (Str.ofString "", Txt.item W (i : Int)) := by unfold pk; rw [if_neg hif]
      rw [Int.zero_add] at *
      refine CallOk.use ((push_okP w mean mg mb x dx P i dob (Str.ofString "") (Txt.item W (i : Int)) _ _ hdx (hdo.shadow (Str.ofString "append") (by decide)) (by rw [List.length_map, sizeLine_eq]; omega)).frame ((I, itR (0 + ((i + 1 : Nat) : Int)) ((8 : Nat) - ((i + 1 : Nat) : Int))) :: (119, tabObj #[]) :: (rLed P ++ restU H H2 D D2 t)) (fun _ _ _ N => dis_acc hdo ?_ N)) B' F6 X' (newsSub N6 ?_) T' rfl (by ktr_room) (by ktr_units) ?_
      · intro q hq
        rcases List.mem_cons.mp hq with rfl | hq
        · exact .inr (.inr (.inr rfl))
        rcases List.mem_cons.mp hq with rfl | hq
        · exact .inl ⟨_, rfl⟩
        rcases List.mem_append.mp hq with hq | hq
        · exact rLed_oth q hq
        · exact restU_oth ht q hq
      · intro p hp
        simp only [List.mem_cons, List.mem_append, List.cons_append, List.nil_append] at hp ⊢
        rcases hp with h | h | h | h | h | h <;> simp [h]
      intro r1 nw1 h1' tk1 F1 N1 K1 hr1
      refine hideG ?_; intro HP back; obtain ⟨nw2, rfl, hap2, q, hq, rfl, rfl⟩ := hr1; refine back ?_; clear back HP
      clear F6 N6
      dsimp only
      repeat' (first | (k_unfold; (try dsimp only)) | ((fail_if_success (with_reducible show UnrPost _ _ _ _ _ _ _ _ _)); first | walk1 | (dsimp only; walk1)))
      refine ⟨_, _, _, (x, accObj dx (rIts (P ++ [q])).toArray (i + 1)) :: (dx, dob) :: (119, tabObj #[]) :: (rLed (P ++ [q]) ++ restU H H2 D D2 t), rfl, F1, newsSub N1 ?_, ?_, P ++ [q], ?_, ?_, rfl, rfl, rfl, rfl, rfl, rfl⟩
      · intro p hp
        simp only [List.mem_cons, List.mem_append, List.cons_append, List.nil_append, rLed, List.map_append, List.map_cons, List.map_nil, List.not_mem_nil, or_false] at hp ⊢
        rcases hp with h | h | h | h | (h | h) | h <;> simp [h]
      · intro p hp
        simp only [List.mem_cons, List.mem_append, rLed, List.map_append, List.map_cons, List.map_nil, List.not_mem_nil, or_false] at hp
        rcases hp with rfl | rfl | rfl | (h | rfl) | h
        · exact hap2 _ (.head _) _ (.head _)
        · exact hap2 _ (.tail _ (.head _)) _ (.head _)
        · exact Nat.ne_of_lt (lI (119, tabObj #[]) (by simp))
        · obtain ⟨p', hp', rfl⟩ := List.mem_map.mp h
          refine not_iter N1 (I := I) (List.mem_append_right _ (.head _)) (List.mem_append_right _ (.tail _ (.tail _ (List.mem_append_left _ h)))) rfl
        · exact hap2 _ (.tail _ (.tail _ (.head _))) _ (.head _)
        · exact Nat.ne_of_lt (lI p (List.mem_append_right _ (.tail _ h)))
      · rw [List.length_append, hPl]; rfl
      · rw [List.map_append, hP, List.range_succ, List.map_append, List.map_singleton, List.map_singleton, hpk, hq]
  · exact ⟨[], rfl, rfl, rfl, rfl, rfl, rfl, rfl, rfl⟩
end Mine
end
-- TxtL
section
open PySem PySem.Builtin PySem.Builtin.Str PySem.StrLaws
namespace Mine
abbrev dots : Str := Str.ofString "..."
theorem dots_len : dots.length = 3 := by decide +kernel
theorem dots_cps : dots.cps.toList = [46, 46, 46] := by decide +kernel
theorem at_dots {z : Str} {i : Nat} (h : At z dots z.length i) : i + 3 ≤ z.length ∧ ∀ j, j < 3 → z.cps.toList[i + j]? = some 46 := by
  obtain ⟨h1, h2⟩ := h
  rw [dots_len] at h1
  refine ⟨h1, fun j hj => ?_⟩
  rw [subAt_eq, beq_iff_eq, dots_cps, dots_len] at h2
  have : ((z.cps.toList.drop i).take 3)[j]? = [46, 46, 46][j]? := by rw [h2]
  rw [List.getElem?_take_of_lt hj, List.getElem?_drop] at this
  rw [this]
  match j, hj with
  | 0, _ => rfl
  | 1, _ => rfl
  | 2, _ => rfl
theorem str_len (x : Str) : x.length = x.cps.toList.length := by rw [Array.length_toList]; rfl
theorem app_cps (x y : Str) : (x ++ y).cps.toList = x.cps.toList ++ y.cps.toList := by rw [Str.cps_append, Array.toList_append]
theorem str_ext {x y : Str} (h : x.cps.toList = y.cps.toList) : x = y := Str.ext' (Array.toList_inj.mp h)
theorem occ_one {z : Str} {o : Nat} (h1 : At z dots z.length o) (h2 : ∀ k, At z dots z.length k → k = o) : occurrences z dots 0 z.length (z.length + 1) = [o] := by
  obtain ⟨f, hc, hn⟩ := occ_tight z dots (by rw [dots_len]; decide)
  generalize occurrences z dots 0 z.length (z.length + 1) = cuts at hc
  cases cuts with
  | nil =>
    have e : f = 0 := hc
    exact absurd h1 (hn o (by omega))
  | cons c r =>
    obtain ⟨_, a2, _, a4⟩ := hc
    have e := h2 c a2
    subst e
    cases r with
    | nil => rfl
    | cons c2 r2 =>
      obtain ⟨b1, b2, _, _⟩ := a4
      have e2 := h2 c2 b2
      rw [dots_len] at b1
      omega
theorem split_one {z : Str} {o : Nat} (h1 : At z dots z.length o) (h2 : ∀ k, At z dots z.length k → k = o) : Txt.split z dots = [strSub z 0 o, strSub z (o + 3) z.length] := by
  have hl := (at_dots h1).1
  unfold Txt.split
  rw [occ_one h1 h2, if_neg, if_neg (by simp)]
  · rw [dots_len]; rfl
  · rw [dots_len]
    have k : Builtin.Str.strKind dots = 1 := by decide +kernel
    rw [k]
    have : ¬ Builtin.Str.strKind z < 1 := by unfold Builtin.Str.strKind; split <;> (try split) <;> omega
    simp only [Bool.or_eq_true, decide_eq_true_eq, not_or]
    exact ⟨by omega, this⟩
theorem at_app (y x : Str) : At (y ++ dots ++ x) dots (y ++ dots ++ x).length y.length := by
  refine ⟨?_, ?_⟩
  · rw [Str.length_append, Str.length_append]; omega
  · rw [subAt_eq, beq_iff_eq, app_cps, app_cps, dots_len, List.append_assoc, str_len y, List.drop_left, dots_cps]; rfl
/-- the dots stand where they were put, and nowhere else -/
theorem split_pre {x : Str} (hx : 46 ∉ x.cps.toList) : Txt.split (dots ++ x) dots = [Str.empty, x] := by
  have e : dots ++ x = Str.empty ++ dots ++ x := by rw [Str.empty_append]
  have h1 : At (dots ++ x) dots (dots ++ x).length 0 := by
    have := at_app Str.empty x
    rw [← e] at this; exact this
  rw [split_one (o := 0) h1 fun k hk => ?_]
  · congr 1
    · apply str_ext
      rw [strSub_toList]
      simp
      rfl
    · congr 1
      apply str_ext
      rw [strSub_toList, Str.length_append, app_cps, dots_len, dots_cps, str_len x]
      simp
      rw [← Array.length_toList, List.take_length]
  · have z := (at_dots hk).2 2 (by decide)
    have z1 := (at_dots hk).2 1 (by decide)
    rw [app_cps, dots_cps] at z
    by_cases hk0 : k = 0
    · exact hk0
    · exfalso
      have : [46, 46, 46] ++ x.cps.toList = [46, 46, 46] ++ x.cps.toList := rfl
      rw [List.getElem?_append_right (by simp; omega)] at z
      exact hx (List.mem_of_getElem? z)
theorem split_suf {y : Str} (hy : 46 ∉ y.cps.toList) : Txt.split (y ++ dots) dots = [y, Str.empty] := by
  have e : y ++ dots = y ++ dots ++ Str.empty := by
    apply str_ext; rw [app_cps (y ++ dots)]; exact (List.append_nil _).symm
  have h1 : At (y ++ dots) dots (y ++ dots).length y.length := by
    have := at_app y Str.empty
    rw [← e] at this; exact this
  rw [split_one (o := y.length) h1 fun k hk => ?_]
  · congr 1
    · apply str_ext
      rw [strSub_toList, app_cps, str_len y]; simp
    · congr 1
      apply str_ext
      rw [strSub_toList, Str.length_append, dots_len]
      simp
      rfl
  · have z := (at_dots hk).2 0 (by decide)
    have zl := (at_dots hk).1
    rw [Str.length_append, dots_len] at zl
    by_cases hk0 : k = y.length
    · exact hk0
    · exfalso
      rw [app_cps, List.getElem?_append_left (by rw [← str_len]; omega)] at z
      exact hy (List.mem_of_getElem? z)
theorem has_dots {z : Str} {o : Nat} (h : At z dots z.length o) : (occurrences z dots 0 z.length 1).isEmpty = false := by
  have := (found_iff z dots).mpr ⟨o, h.1, h.2⟩
  simpa using this
theorem has_pre (x : Str) : (occurrences (dots ++ x) dots 0 (dots ++ x).length 1).isEmpty = false := by
  have e : dots ++ x = Str.empty ++ dots ++ x := by rw [Str.empty_append]
  have := at_app Str.empty x
  rw [← e] at this; exact has_dots this
theorem has_suf (y : Str) : (occurrences (y ++ dots) dots 0 (y ++ dots).length 1).isEmpty = false := by
  have e : y ++ dots = y ++ dots ++ Str.empty := by
    apply str_ext; rw [app_cps (y ++ dots)]; exact (List.append_nil _).symm
  have := at_app y Str.empty
  rw [← e] at this; exact has_dots this
theorem empty_len : Str.empty.length = 0 := by decide +kernel
theorem at_empty (x : Str) {hi i : Nat} (h : i ≤ hi) : At x Str.empty hi i := by
  refine ⟨by rw [empty_len]; exact h, ?_⟩
  rw [subAt_eq, empty_len]; rfl
theorem occ_empty (x : Str) {lo hi : Nat} (h : lo ≤ hi) : ∃ r, occurrences x Str.empty lo hi 1 = lo :: r := by
  rw [occ_eq]
  have hr : List.range' lo (hi + 1 - lo) = lo :: List.range' (lo + 1) (hi - lo) := by
    rw [show hi + 1 - lo = (hi - lo) + 1 by omega, List.range'_succ]
  rcases occ_first x Str.empty hi 1 (Nat.le_refl _) (List.range' lo (hi + 1 - lo)) lo (fun i hi' => by have := List.mem_range'_1.mp hi'; omega) with ⟨_, hn⟩ | ⟨pre, a, post, e, h0, _, hn⟩
  · exact absurd (at_empty x h) (hn lo (by rw [hr]; exact .head _))
  · have ea : a = lo := by
      rw [hr] at e
      cases pre with
      | nil => exact (List.cons.inj e).1.symm
      | cons p ps =>
        have : lo = p := (List.cons.inj e).1
        subst this
        exact absurd (at_empty x h) (hn lo (.head _))
    subst ea
    generalize (forIn (List.range' a (hi + 1 - a)) ((#[] : Array Nat), a) (occBody x Str.empty hi 1)).run.fst = arr at h0
    cases hL : arr.toList with
    | nil => rw [← Array.getElem?_toList, hL] at h0; cases h0
    | cons b r =>
      rw [← Array.getElem?_toList, hL] at h0
      exact ⟨r, by rw [show b = a from Option.some.inj h0]⟩
theorem gives_find4 (x y : Str) (i j : Int) (t u v v2 : Tok) : Gives («str.find» ⟨[.str x t, .str y u, .int i v, .int j v2], []⟩) (.int (match occurrences x y (fromIndex x.length i) (min (fromIndex x.length j) x.length) 1 with | k :: _ => (k : Int) | [] => -1)) := by
  show Gives (match occurrences x y (fromIndex x.length i) (min (fromIndex x.length j) x.length) 1 with | k :: _ => retInt k | [] => (do rule "str.find.not-found"; retInt (-1))) _
  cases occurrences x y (fromIndex x.length i) (min (fromIndex x.length j) x.length) 1 with
  | nil => exact .rule (.of_eq rfl)
  | cons k _ => exact .of_eq rfl
section
variable {prog : Program} {w : World} {A : Around} {E : Value → Shared → Prop} {s : Shared} {x : Str} {t u v v2 : Tok} {i j : Int} {Q : Value → Shared → Prop}
theorem find_empty (h0 : 0 ≤ i) (h1 : i ≤ j) (h2 : j ≤ x.length) (hq : Q (.int i s.toks) { s with toks := s.toks + 1 }) : wpAny (model prog w) A (call (.builtin "str.find") [.str x t, .str Str.empty u, .int i v, .int j v2]) Q E s := by
  have e1 : fromIndex x.length i = i.toNat := by unfold fromIndex; rw [if_neg (by omega)]; omega
  have e2 : min (fromIndex x.length j) x.length = j.toNat := by
    have : fromIndex x.length j = j.toNat := by unfold fromIndex; rw [if_neg (by omega)]; omega
    rw [this]; omega
  obtain ⟨r, hr⟩ := occ_empty x (lo := i.toNat) (hi := j.toNat) (by omega)
  have g := gives_find4 x Str.empty i j t u v v2
  rw [e1, e2, hr] at g
  have e3 : ((i.toNat : Nat) : Int) = i := by omega
  dsimp only at g
  rw [e3] at g
  exact call_gives F.slot_str_find (typeIs_str _ _ _) F.entry_str_find (F.args_str_find_4 _ _ _ _) g hq
end
theorem endswith_le {x y : Str} (h : Txt.endswith x y = true) : y.length ≤ x.length := by
  unfold Txt.endswith at h
  rw [Bool.and_eq_true, decide_eq_true_eq] at h
  omega
theorem startswith_le {x y : Str} (h : Txt.startswith x y = true) : y.length ≤ x.length := by
  unfold Txt.startswith at h
  rw [Bool.and_eq_true, decide_eq_true_eq] at h
  omega
end Mine
end
-- CEM
section
open PySem PySem.W PyProof.Rows PySem.Calls
set_option maxRecDepth 100000
set_option maxHeartbeats 8000000
namespace Mine
theorem off17 : True := by
  w_top off
  k_with_none
  exact trivial
theorem find_empty' {prog : Program} {w : World} {A : Around} {E : Value → Shared → Prop} {s : Shared} {x y : Str} {t u v v2 : Tok} {i j : Int} {Q : Value → Shared → Prop} (hy : y = Str.empty) (h0 : 0 ≤ i) (h1 : i ≤ j) (h2 : j ≤ x.length) (hq : Q (.int i s.toks) { s with toks := s.toks + 1 }) : wpAny (model prog w) A (call (.builtin "str.find") [.str x t, .str y u, .int i v, .int j v2]) Q E s := by
  subst hy; exact find_empty h0 h1 h2 hq
theorem fill8 : (Challenge.rw_re0104_01, hd.heap_1) = (Challenge.rw_re0104_01, hd.heap_1) := by
  k_fill
  rfl
theorem lineCEM1 : True := by
  k_with "call builtin:str.find" => (refine find_empty' (by assumption) (by omega) (by omega) (by omega) ?_)
  exact trivial
theorem em_suf (w : World) (mean : ExcName → Option Value) (mg mb : Str → Option Value) (want x got : Str) (tw tg : Tok) (hw : want = dots ++ x) (hx : 46 ∉ x.cps.toList) (hx0 : 0 < x.length) (hx1 : x.length < 100) (hg : got.length < 100) :
    CallOk w mean mg mb [] 2 70 [.str want tw, .str got tg] (fun r nw => nw = [] ∧ r = .bool (Txt.endswith got x)) := by
  have hc : (Builtin.Str.occurrences want dots 0 want.length 1).isEmpty = false := by rw [hw]; exact has_pre x
  have hwl : want.length = x.length + 3 := by rw [hw, Str.length_append, dots_len]; omega
  unfold CallOk
  intro dp un gd cn cs a' ccd cl outer A₀ base h₀ L m s Q E B F X N T hk hdp hun hret
  refine wpAny_call ?_
  (refine' enter_K ?k1 ?k2 ?k3 ?k4 ?k5 ?kA ?kF ?kK ?k6 ?k7 ?k8 ?k9 ?kB ?_ ?c2 ?c3 ?c4 ?c5; (case kA => exact rfl); (case kF => exact rfl); (case kK => assumption); (case k1 => k_asm); (case k2 => k_asm); (case k3 => k_asm); (case k4 => k_asm); (case k5 => k_asm); (case k6 => k_is); (case k7 => k_is); (case k8 => first | exact room0 hdp | ktr_room); (case k9 => exact BindsTo.of_eq rfl); (case c5 => decide); (case kB => exact locs rfl); (case c2 => exact rfl); (case c3 => exact rfl); (case c4 => exact rfl); k_whole; intro g L' h' G FG F' N' B' X' T' l1; (try dsimp only); (try k_fold))
  repeat' (first | (k_unfold; (try dsimp only)) | ((fail_if_success (with_reducible show wpAny _ _ (call (Value.builtin "str.split") _) _ _ _)); first | walk1 | (dsimp only; walk1)))
  all_goals first | (exfalso; have hz : (Builtin.Str.occurrences want (Str.ofString "...") 0 want.length 1).isEmpty = true := (by assumption); rw [hc] at hz; cases hz; done) | skip
  with_reducible rename Fr _ _ _ _ => F2
  with_reducible rename News _ _ _ _ => N2
  refine KSpl.split1 F2 N2 (by decide +kernel) ?_ (by rw [hwl, sizeLine_eq]; omega)
  intro D l h1 k1 el hS F3 N3 lD
  rw [hw, split_pre hx] at el
  obtain ⟨e0, he0⟩ : ∃ e0, e0 = Str.empty := ⟨_, rfl⟩
  have hl0 : e0.length = 0 := by rw [he0]; exact empty_len
  rw [← he0] at el
  obtain ⟨ta, l', rfl, el'⟩ := KSpl.cons_of el
  obtain ⟨tb, l'', rfl, el''⟩ := KSpl.cons_of el'
  have := KSpl.nil_of el''
  subst this
  simp only [strValues, List.map_cons, List.map_nil] at N3 hS
  clear F2 N2
  dsimp only
  by_cases he : Txt.endswith got x = true
  · have hle := endswith_le he
    k_steps
    all_goals first | (exfalso; have hz : Txt.endswith got x = false := (by assumption); rw [he] at hz; cases hz; done) | (exfalso; omega) | skip
    with_reducible rename Fr h₀ _ _ _ => Fe
    exact hret _ [] _ _ Fe News.nil (G.back (by assumption) News.nil) ⟨rfl, by rw [he]⟩
  · have hf : Txt.endswith got x = false := by simpa using he
    k_steps
    all_goals first | (exfalso; exact he (by assumption)) | (exfalso; omega) | skip
    with_reducible rename Fr h₀ _ _ _ => Fe
    exact hret _ [] _ _ Fe News.nil (G.back (by assumption) News.nil) ⟨rfl, by rw [hf]⟩
theorem em_pre (w : World) (mean : ExcName → Option Value) (mg mb : Str → Option Value) (want x got : Str) (tw tg : Tok) (hw : want = x ++ dots) (hx : 46 ∉ x.cps.toList) (hx0 : 0 < x.length) (hx1 : x.length < 100) (hg : got.length < 100) :
    CallOk w mean mg mb [] 2 70 [.str want tw, .str got tg] (fun r nw => nw = [] ∧ r = .bool (Txt.startswith got x)) := by
  have hc : (Builtin.Str.occurrences want dots 0 want.length 1).isEmpty = false := by rw [hw]; exact has_suf x
  have hwl : want.length = x.length + 3 := by rw [hw, Str.length_append, dots_len]
  unfold CallOk
  intro dp un gd cn cs a' ccd cl outer A₀ base h₀ L m s Q E B F X N T hk hdp hun hret
  refine wpAny_call ?_
  (refine' enter_K ?k1 ?k2 ?k3 ?k4 ?k5 ?kA ?kF ?kK ?k6 ?k7 ?k8 ?k9 ?kB ?_ ?c2 ?c3 ?c4 ?c5; (case kA => exact rfl); (case kF => exact rfl); (case kK => assumption); (case k1 => k_asm); (case k2 => k_asm); (case k3 => k_asm); (case k4 => k_asm); (case k5 => k_asm); (case k6 => k_is); (case k7 => k_is); (case k8 => first | exact room0 hdp | ktr_room); (case k9 => exact BindsTo.of_eq rfl); (case c5 => decide); (case kB => exact locs rfl); (case c2 => exact rfl); (case c3 => exact rfl); (case c4 => exact rfl); k_whole; intro g L' h' G FG F' N' B' X' T' l1; (try dsimp only); (try k_fold))
  repeat' (first | (k_unfold; (try dsimp only)) | ((fail_if_success (with_reducible show wpAny _ _ (call (Value.builtin "str.split") _) _ _ _)); first | walk1 | (dsimp only; walk1)))
  all_goals first | (exfalso; have hz : (Builtin.Str.occurrences want (Str.ofString "...") 0 want.length 1).isEmpty = true := (by assumption); rw [hc] at hz; cases hz; done) | skip
  with_reducible rename Fr _ _ _ _ => F2
  with_reducible rename News _ _ _ _ => N2
  refine KSpl.split1 F2 N2 (by decide +kernel) ?_ (by rw [hwl, sizeLine_eq]; omega)
  intro D l h1 k1 el hS F3 N3 lD
  rw [hw, split_suf hx] at el
  obtain ⟨e0, he0⟩ : ∃ e0, e0 = Str.empty := ⟨_, rfl⟩
  have hl0 : e0.length = 0 := by rw [he0]; exact empty_len
  rw [← he0] at el
  obtain ⟨ta, l', rfl, el'⟩ := KSpl.cons_of el
  obtain ⟨tb, l'', rfl, el''⟩ := KSpl.cons_of el'
  have := KSpl.nil_of el''
  subst this
  simp only [strValues, List.map_cons, List.map_nil] at N3 hS
  clear F2 N2
  dsimp only
  by_cases he : Txt.startswith got x = true
  · have hle := startswith_le he
    k_steps
    all_goals first | (exfalso; have hz : Txt.startswith got x = false := (by assumption); rw [he] at hz; cases hz; done) | (exfalso; omega) | skip
    with_reducible rename Fr h₀ _ _ _ => Fe
    exact hret _ [] _ _ Fe News.nil (G.back (by assumption) News.nil) ⟨rfl, by rw [he]⟩
  · have hf : Txt.startswith got x = false := by simpa using he
    k_steps
    all_goals first | (exfalso; exact he (by assumption)) | (exfalso; omega) | skip
    with_reducible rename Fr h₀ _ _ _ => Fe
    exact hret _ [] _ _ Fe News.nil (G.back (by assumption) News.nil) ⟨rfl, by rw [hf]⟩
theorem em_nil (w : World) (mean : ExcName → Option Value) (mg mb : Str → Option Value) (want x got : Str) (tw tg : Tok) (hw : want = dots ++ x) (hx : 46 ∉ x.cps.toList) (hx0 : x = Str.empty) (hx1 : x.length < 100) (hg : got.length < 100) :
    CallOk w mean mg mb [] 2 70 [.str want tw, .str got tg] (fun r nw => nw = [] ∧ r = .bool (true)) := by
  have hc : (Builtin.Str.occurrences want dots 0 want.length 1).isEmpty = false := by rw [hw]; exact has_pre x
  have hwl : want.length = 3 := by rw [hw, hx0, Str.length_append, dots_len, empty_len]
  unfold CallOk
  intro dp un gd cn cs a' ccd cl outer A₀ base h₀ L m s Q E B F X N T hk hdp hun hret
  refine wpAny_call ?_
  (refine' enter_K ?k1 ?k2 ?k3 ?k4 ?k5 ?kA ?kF ?kK ?k6 ?k7 ?k8 ?k9 ?kB ?_ ?c2 ?c3 ?c4 ?c5; (case kA => exact rfl); (case kF => exact rfl); (case kK => assumption); (case k1 => k_asm); (case k2 => k_asm); (case k3 => k_asm); (case k4 => k_asm); (case k5 => k_asm); (case k6 => k_is); (case k7 => k_is); (case k8 => first | exact room0 hdp | ktr_room); (case k9 => exact BindsTo.of_eq rfl); (case c5 => decide); (case kB => exact locs rfl); (case c2 => exact rfl); (case c3 => exact rfl); (case c4 => exact rfl); k_whole; intro g L' h' G FG F' N' B' X' T' l1; (try dsimp only); (try k_fold))
  repeat' (first | (k_unfold; (try dsimp only)) | ((fail_if_success (with_reducible show wpAny _ _ (call (Value.builtin "str.split") _) _ _ _)); first | walk1 | (dsimp only; walk1)))
  all_goals first | (exfalso; have hz : (Builtin.Str.occurrences want (Str.ofString "...") 0 want.length 1).isEmpty = true := (by assumption); rw [hc] at hz; cases hz; done) | skip
  with_reducible rename Fr _ _ _ _ => F2
  with_reducible rename News _ _ _ _ => N2
  refine KSpl.split1 F2 N2 (by decide +kernel) ?_ (by rw [hwl, sizeLine_eq]; omega)
  intro D l h1 k1 el hS F3 N3 lD
  rw [hw, split_pre hx, hx0] at el
  obtain ⟨e0, he0⟩ : ∃ e0, e0 = Str.empty := ⟨_, rfl⟩
  have hl0 : e0.length = 0 := by rw [he0]; exact empty_len
  rw [← he0] at el
  obtain ⟨ta, l', rfl, el'⟩ := KSpl.cons_of el
  obtain ⟨tb, l'', rfl, el''⟩ := KSpl.cons_of el'
  have := KSpl.nil_of el''
  subst this
  simp only [strValues, List.map_cons, List.map_nil] at N3 hS
  clear F2 N2
  dsimp only
  k_steps
  all_goals first | (exfalso; omega) | skip
  · with_reducible rename Fr h₀ _ _ _ => Fe
    exact hret _ [] _ _ Fe News.nil (G.back (by assumption) News.nil) ⟨rfl, rfl⟩
end Mine
end
-- CLst
section
open PySem PySem.W PyProof.Rows PySem.Calls
set_option maxRecDepth 100000
set_option maxHeartbeats 4000000
namespace Mine
theorem off18 : True := by
  w_top off
  k_with_none
  exact trivial
theorem fill25 : (Challenge.rw_re0104_01, hd.heap_1) = (Challenge.rw_re0104_01, hd.heap_1) := by
  k_fill
  rfl
theorem canon2 {m : Str → Option Value} {x1 x2 : Str} {v1 v2 : Value} (h1 : m x1 = some v1) (h2 : m x2 = some v2) :
    m = fun y => if y = x1 then some v1 else if y = x2 then some v2 else m y := by
  funext y
  split
  · rename_i h; rw [h]; exact h1
  · split
    · rename_i h; rw [h]; exact h2
    · rfl
theorem slice_mem {x : Str} {l u : Option Int} {c : Nat} (h : c ∈ (Txt.slice x l u).cps.toList) : c ∈ x.cps.toList := by
  unfold Txt.slice at h
  split at h
  · exact h
  · obtain ⟨j, _, e⟩ := List.mem_filterMap.mp (by simpa using h)
    rw [← Array.getElem?_toList] at e
    exact List.mem_of_getElem? e
def fitP (a b : Str) (z : Int) : Bool :=
  if z ≤ (b.length : Int) then Txt.endswith (Txt.slice b none (some z)) (Txt.slice a (some (-z)) none)
  else Txt.startswith (Txt.slice a (some (-z)) none) (Txt.slice b (some (if z - (a.length : Int) > 0 then z - (a.length : Int) else 0)) none)
def lsz (a b : Str) : Nat → Nat → Int
  | 0, _ => 0
  | k + 1, i => if fitP a b (1 + (i : Int)) = true then 1 + (i : Int) else lsz a b k (i + 1)
theorem ends_empty {g x : Str} (h : x.length = 0) : Txt.endswith g x = true := by
  have e : x.cps.toList = [] := by rw [str_len] at h; exact List.length_eq_zero_iff.mp h
  unfold Txt.endswith
  rw [h, StrLaws.subAt_eq, e]
  simp [h]
theorem starts_empty {g x : Str} (h : x.length = 0) : Txt.startswith g x = true := by
  have e : x.cps.toList = [] := by rw [str_len] at h; exact List.length_eq_zero_iff.mp h
  unfold Txt.startswith
  rw [h, StrLaws.subAt_eq, e]
  simp [h]
theorem str_nil {x : Str} (h : x.length = 0) : x = Str.empty := str_ext (by rw [str_len] at h; rw [List.length_eq_zero_iff.mp h]; rfl)
theorem em_ends (w : World) (mean : ExcName → Option Value) (mg mb : Str → Option Value) (x got : Str) (tw tg : Tok) (hx : 46 ∉ x.cps.toList) (hx1 : x.length < 100) (hg : got.length < 100) :
    CallOk w mean mg mb [] 2 70 [.str (dots ++ x) tw, .str got tg] (fun r nw => nw = [] ∧ r = .bool (Txt.endswith got x)) := by
  by_cases h : x.length = 0
  · refine (em_nil w mean mg mb (dots ++ x) x got tw tg rfl hx (str_nil h) hx1 hg).mono (Nat.le_refl _) fun r nw q => ?_
    rw [ends_empty h]; exact q
  · exact em_suf w mean mg mb (dots ++ x) x got tw tg rfl hx (by omega) hx1 hg
theorem em_starts (w : World) (mean : ExcName → Option Value) (mg mb : Str → Option Value) (x got : Str) (tw tg : Tok) (hx : 46 ∉ x.cps.toList) (hx1 : x.length < 100) (hg : got.length < 100) :
    CallOk w mean mg mb [] 2 70 [.str (x ++ dots) tw, .str got tg] (fun r nw => nw = [] ∧ r = .bool (Txt.startswith got x)) := by
  by_cases h : x.length = 0
  · have e := str_nil h
    refine (em_nil w mean mg mb (x ++ dots) x got tw tg (by rw [e]; rfl) hx e hx1 hg).mono (Nat.le_refl _) fun r nw q => ?_
    rw [starts_empty h]; exact q
  · exact em_pre w mean mg mb (x ++ dots) x got tw tg rfl hx (by omega) hx1 hg
theorem small8 : ∀ n : Nat, n ≤ 8 → Builtin.Range.small 1 ((n : Int) + 1) 1 = true := by decide +kernel
theorem least_ok (w : World) (mean : ExcName → Option Value) (mg mb : Str → Option Value) (a b : Str) (ta tb tn : Tok) (n : Nat) (ha : 46 ∉ a.cps.toList) (hb : 46 ∉ b.cps.toList) (hla : a.length ≤ 8) (hlb : b.length ≤ 8) (hn : n ≤ 8) :
    CallOk w mean mg mb [] 4 171 [.str a ta, .str b tb, .int (n : Int) tn] (fun r nw => nw = [] ∧ ∃ t, r = .int (lsz a b n 0) t) := by
  unfold CallOk
  intro dp un gd cn cs a' ccd cl outer A₀ base h₀ L m s Q E B F X N T hk hdp hun hret
  refine wpAny_call ?_
  (refine' enter_K ?k1 ?k2 ?k3 ?k4 ?k5 ?kA ?kF ?kK ?k6 ?k7 ?k8 ?k9 ?kB ?_ ?c2 ?c3 ?c4 ?c5; (case kA => exact rfl); (case kF => exact rfl); (case kK => assumption); (case k1 => k_asm); (case k2 => k_asm); (case k3 => k_asm); (case k4 => k_asm); (case k5 => k_asm); (case k6 => k_is); (case k7 => k_is); (case k8 => first | exact room0 hdp | ktr_room); (case k9 => exact BindsTo.of_eq rfl); (case c5 => decide); (case kB => exact locs rfl); (case c2 => exact rfl); (case c3 => exact rfl); (case c4 => exact rfl); k_whole; intro g L' h' G FG F' N' B' X' T' l1; (try dsimp only); (try k_fold))
  repeat' (first | (k_unfold; (try dsimp only)) | ((fail_if_success (with_reducible show wpAny _ _ (pyIter _) (fun it s₂ => LoopAtV _ _ _ _ _ _ _ _ _ it s₂) _ _)); first | walk1 | (dsimp only; walk1)))
  with_reducible rename Fr _ _ _ _ => F2
  with_reducible rename News _ _ _ _ => N2
  with_reducible rename IsRange _ _ _ _ _ _ _ _ => R2
  refine iter_rangeUnr (n := n) rfl R2 ?_ ?_ F2 N2 ?_
  · exact small8 n hn
  · unfold Builtin.Range.rangeSize; simp; omega
  intro I lI
  refine range_ind n (fun i m news => m (Str.ofString "ahead") = some (.str a ta) ∧ m (Str.ofString "behind") = some (.str b tb) ∧ news = [] ∧ lsz a b n 0 = lsz a b (n - i) i) ?_ ?_ n 0 _ _ (Nat.zero_add n) ?_
  · intro m1 nw hzz h5 tk5 F5 N5
    refine hideG ?_; intro HP back; obtain ⟨m1a, m1b, rfl, hz⟩ := hzz; refine back ?_; clear back HP
    rw [Nat.sub_self] at hz
    clear F2 N2
    dsimp only
    k_steps
    with_reducible rename Fr h₀ _ _ _ => Fe
    exact hret _ [] _ _ Fe News.nil (G.back F5 News.nil) ⟨rfl, _, by rw [hz]; rfl⟩
  · intro i m1 nw hi hzz t5 h5 tk5 F5 N5
    refine hideG ?_; intro HP back; obtain ⟨m1a, m1b, rfl, hz⟩ := hzz; refine back ?_; clear back HP
    have hz2 : n - i = (n - (i + 1)) + 1 := by omega
    rw [hz2, lsz] at hz

    rw [canon2 m1a m1b] at F5
    clear F2 N2
    have sl : ∀ (x : Str) (l u : Option Int), 46 ∉ x.cps.toList → 46 ∉ (Txt.slice x l u).cps.toList := fun x l u h h' => h (slice_mem h')
    k_steps
    · with_reducible rename Fr _ _ _ _ => F6
      with_reducible rename News _ _ _ _ => N6
      have hc : 1 + (i : Int) ≤ (b.length : Int) := by assumption
      have s1 := Txt.slice_le a (some (-(1 + (i : Int)))) none
      have s2 := Txt.slice_le b none (some (1 + (i : Int)))
      refine CallOk.use ((em_ends w mean mg mb (Txt.slice a (some (-(1 + (i : Int)))) none) (Txt.slice b none (some (1 + (i : Int)))) _ _ (sl _ _ _ ha) (by omega) (by omega)).frame _ (fun _ _ _ _ _ _ hh => nomatch hh)) B' F6 X' N6 T' rfl (by first | exact room1 hdp rfl | ktr_room) (by first | exact units1 hun rfl | ktr_units) ?_
      intro r1 nw1 h1' tk1 F1 N1 K1 hr1
      refine hideG ?_; intro HP back; obtain ⟨nw2, rfl, hap, rfl, rfl⟩ := hr1; refine back ?_; clear back HP
      simp only [List.nil_append] at N1
      have hf : fitP a b (1 + (i : Int)) = Txt.endswith (Txt.slice b none (some (1 + (i : Int)))) (Txt.slice a (some (-(1 + (i : Int)))) none) := by unfold fitP; rw [if_pos hc]
      rw [← hf]
      clear F6 N6
      generalize hq : fitP a b (1 + (i : Int)) = c at *
      cases c
      · dsimp only
        k_steps
      · dsimp only
        k_steps
        with_reducible rename Fr h₀ _ _ _ => Fe
        with_reducible rename Fr g _ _ _ => Fg
        exact hret _ [] _ _ Fe News.nil (G.back Fg News.nil) ⟨rfl, _, by rw [hz, if_pos rfl]⟩
    · with_reducible rename Fr _ _ _ _ => F6
      with_reducible rename News _ _ _ _ => N6
      have hc : ¬ (1 + (i : Int) ≤ (b.length : Int)) := by assumption
      have s1 := Txt.slice_le a (some (-(1 + (i : Int)))) none
      have s2 := Txt.slice_le b (some (if 1 + (i : Int) - (a.length : Int) > 0 then 1 + (i : Int) - (a.length : Int) else 0)) none
      refine CallOk.use ((em_starts w mean mg mb (Txt.slice b (some (if 1 + (i : Int) - (a.length : Int) > 0 then 1 + (i : Int) - (a.length : Int) else 0)) none) (Txt.slice a (some (-(1 + (i : Int)))) none) _ _ (sl _ _ _ hb) (by omega) (by omega)).frame _ (fun _ _ _ _ _ _ hh => nomatch hh)) B' F6 X' N6 T' rfl (by first | exact room1 hdp rfl | ktr_room) (by first | exact units1 hun rfl | ktr_units) ?_
      intro r1 nw1 h1' tk1 F1 N1 K1 hr1
      refine hideG ?_; intro HP back; obtain ⟨nw2, rfl, hap, rfl, rfl⟩ := hr1; refine back ?_; clear back HP
      simp only [List.nil_append] at N1
      have hf : fitP a b (1 + (i : Int)) = Txt.startswith (Txt.slice a (some (-(1 + (i : Int)))) none) (Txt.slice b (some (if 1 + (i : Int) - (a.length : Int) > 0 then 1 + (i : Int) - (a.length : Int) else 0)) none) := by unfold fitP; rw [if_neg hc]
      rw [← hf]
      clear F6 N6
      generalize hq : fitP a b (1 + (i : Int)) = c at *
      cases c
      · dsimp only
        k_steps
      · dsimp only
        k_steps
        with_reducible rename Fr h₀ _ _ _ => Fe
        with_reducible rename Fr g _ _ _ => Fg
        exact hret _ [] _ _ Fe News.nil (G.back Fg News.nil) ⟨rfl, _, by rw [hz, if_pos rfl]⟩
  · exact ⟨rfl, rfl, rfl, by rw [Nat.sub_zero]⟩
end Mine
end
-- PlnS
section
open PySem PySem.W PyProof.Rows PySem.Calls PySem.Spec
namespace Mine
def sub (l : List Nat) : Str := ⟨l.toArray⟩
theorem sub_cps (l : List Nat) : (sub l).cps.toList = l := by simp [sub]
theorem item_cps {x : Str} {k : Nat} (h : k < x.cps.toList.length) : (Txt.item x (k : Int)).cps.toList = [x.cps.toList[k]] := by
  have hl : x.length = x.cps.toList.length := str_len x
  have hs : seqIndex? (k : Int) x.length = some k := by
    have z := seqIndex_of (k := (k : Int)) (n := x.length) (by omega) (by omega)
    rw [z, Int.toNat_natCast]
  have hlt : k < x.cps.size := by rw [Array.length_toList] at h; exact h
  have e : Txt.charAt x (k : Int) = some x.cps[k] := by
    unfold Txt.charAt
    rw [hs]
    simp [hlt]
  unfold Txt.item
  rw [e]
  simp
theorem pk_cps {W : Str} {k : Nat} (h : k < W.cps.toList.length) : (pk W k).1.cps.toList ++ (pk W k).2.cps.toList = [W.cps.toList[k]] := by
  unfold pk
  split
  · rw [item_cps h]; rfl
  · rw [item_cps h]; rfl
theorem behind_step {W : Str} {k : Nat} (h : k < W.cps.toList.length) {a b : Str} (e : (a, b) = pk W k) : a ++ b ++ sub (W.cps.toList.drop (k + 1)) = sub (W.cps.toList.drop k) := by
  refine str_ext ?_
  have p := pk_cps h
  rw [← e] at p
  rw [Str.cps_append, Str.cps_append, Array.toList_append, Array.toList_append, p, sub_cps, sub_cps, List.singleton_append, List.drop_eq_getElem_cons h]
theorem ahead_all {W : Str} : ∀ {n : Nat} (_ : n ≤ W.cps.toList.length) {R : List Part}, R.map (fun p => (p.a, p.b)) = (List.range n).map (pk W) → Txt.join Str.empty (rTxt R) = sub (W.cps.toList.take n) := by
  intro n hn R hR
  refine str_ext ?_
  rw [join0_cps, sub_cps]
  have e : (rTxt R).map (fun x => x.cps.toList) = (List.range n).map fun k => (pk W k).1.cps.toList ++ (pk W k).2.cps.toList := by
    have e2 := congrArg (List.map fun (p : Str × Str) => p.1.cps.toList ++ p.2.cps.toList) hR
    rw [List.map_map, List.map_map] at e2
    unfold rTxt
    rw [List.map_map, ← show List.map ((fun (p : Str × Str) => p.1.cps.toList ++ p.2.cps.toList) ∘ pk W) (List.range n) = (List.range n).map fun k => (pk W k).1.cps.toList ++ (pk W k).2.cps.toList from rfl, ← e2]
    refine List.map_congr_left fun p _ => ?_
    show (Txt.join Str.empty [p.a, p.b]).cps.toList = p.a.cps.toList ++ p.b.cps.toList
    rw [join0_cps]; simp
  rw [e]
  clear e hR
  induction n with
  | zero => rfl
  | succ n ih =>
    rw [List.range_succ, List.map_append, List.flatten_append, ih (by omega), List.map_singleton, pk_cps (by omega), List.take_add_one, List.getElem?_eq_getElem (by omega)]
    simp
theorem sub_len (l : List Nat) : (sub l).length = l.length := by rw [str_len, sub_cps]
theorem pk_len {W : Str} {k : Nat} (h : k < W.cps.toList.length) : (pk W k).1.length < 100 ∧ (pk W k).2.length < 100 := by
  have p := congrArg List.length (pk_cps h)
  rw [List.length_append, List.length_singleton] at p
  rw [str_len, str_len]
  omega
end Mine
end
-- LF
section
open PySem PySem.W PyProof.Rows PySem.Calls PySem.Spec
namespace Mine
theorem off19 : True := by
  w_top off
  k_with_none
  exact trivial
set_option maxRecDepth 100000
set_option maxHeartbeats 4000000
theorem fill35 : (Challenge.rw_re0104_01, hd.heap_1) = (Challenge.rw_re0104_01, hd.heap_1) := by
  k_fill
  rfl
abbrev qStr : Str := Str.ofString "_Accumulator.__str__" ++ ".<locals>." ++ "<genexpr>"
/-- one answer: the least size at a cut -/
def cutSize (W : Str) (p n : Nat) : Int := lsz (sub (W.cps.toList.take n)) (sub (W.cps.toList.drop n)) p 0
/-- the answers from n = 7 down to n = k -/
def cutSizes (W : Str) (p k : Nat) : List Int := ((List.range 8).drop k).reverse.map (cutSize W p)
/-- the sizes -/
structure AfterF (m : Str → Option Value) (news : Ledg) : Prop where
  is : ∃ W tw H H2 D D2 t wd tp tb S vs nn ps ex, W.length = 8 ∧ (∀ c ∈ W.cps.toList, 97 ≤ c ∧ c ≤ 99) ∧ m (Str.ofString "word") = some (.str W tw) ∧ 2 ≤ wd ∧ wd ≤ 12 ∧ m (Str.ofString "period") = some (.int ((perG (numOf wd W) wd 7 1 : Nat) : Int) tp) ∧
      H.map (fun p => (p.x, p.y)) = (List.range 9).map (hv (numOf wd W) wd) ∧ H2.map (fun p => (p.x, p.y)) = (List.range 9).map (hv (numOf2 wd W) wd) ∧
    Tabs t ∧ m (Str.ofString "halves") = some (.ref D) ∧ m (Str.ofString "turned") = some (.ref D2) ∧ m (Str.ofString "behind") = some (.str W tb) ∧ m (Str.ofString "sizes") = some (.ref S) ∧ IntsAre vs (cutSizes W (perG (numOf wd W) wd 7 1) 0) ∧
    news = (S, listOf vs.toArray nn) :: (119, tabObj ps) :: (ex ++ restU H H2 D D2 t)
theorem lineLF1 : True := by
  k_with "getMethod ref" => (k_here; (with_reducible show wpAny _ _ (getMethod (Value.ref _) (PySem.Str.ofString "pop") _) _ _ _); k_dflt (refine' method_fnL ?zx ?zi (k_ga _) (k_gat _) (k_mpop _) ?zt ?zs ?_; (case zx => k_in); (case zi => exact accInst (News.get (by k_asm) (by k_mem)) (News.get (by k_asm) (by k_mem))); (case zt => k_is); (case zs => first | rfl | assumption); k_whole))
  exact trivial
theorem lineLF2 : True := by
  k_with "getMethod ref" => (k_here; (with_reducible show wpAny _ _ (getMethod (Value.ref _) (PySem.Str.ofString "part_count") _) _ _ _); k_dflt (refine' method_fnL ?zx ?zi (k_ga _) (k_gat _) (k_mcount _) ?zt ?zs ?_; (case zx => k_in); (case zi => exact accInst (News.get (by k_asm) (by k_mem)) (News.get (by k_asm) (by k_mem))); (case zt => k_is); (case zs => first | rfl | assumption); k_whole))
  exact trivial
theorem k_mstr (P : Params) : findIn (hd.heap_1 P) (.ref 150) "__str__" = some (some (.ref 124)) := by kernel_rfl
theorem k_fstr0 (P : Params) : isFn (hd.heap_1 P) (.ref 124) = true := by kernel_rfl
/-- two objects at two addresses -/
theorem apart_of {a b : Addr} {o o2 : Obj} {h₀ h : Heap} {L : Addr} {news : Ledg} (N : News h₀ L h news) (h1 : (a, o) ∈ news) (h2 : (b, o2) ∈ news) (hne : o ≠ o2) : a ≠ b := fun e => hne (sameObj N h1 h2 e)
theorem ne_tab {o : Obj} {ps : Array Value} (h : ∀ vs, o.data ≠ .fields vs) : o ≠ tabObj ps := fun e => h _ (by rw [e])
theorem restU_nostr {H H2 : List Half} {D D2 : Addr} {t : Ledg} (ht : Tabs t) : ∀ q ∈ restU H H2 D D2 t, ∀ a ta b tb, q.2 ≠ tup2 (.str a ta) (.str b tb) := by
  intro q hq a ta b tb e
  unfold restU at hq
  simp only [List.mem_cons, List.mem_append] at hq
  rcases hq with rfl | rfl | h | h | h
  · exact absurd (show Value.type "list" = Value.type "tuple" from congrArg Obj.cls e) (by decide)
  · exact absurd (show Value.type "list" = Value.type "tuple" from congrArg Obj.cls e) (by decide)
  · obtain ⟨p, _, rfl⟩ := List.mem_map.mp h; cases e
  · obtain ⟨p, _, rfl⟩ := List.mem_map.mp h; cases e
  · obtain ⟨vs, hd⟩ := ht.data q h
    rw [e] at hd
    cases hd
theorem restU_119 {H H2 : List Half} {D D2 : Addr} {t : Ledg} (h1 : ∀ p ∈ t, p.1 ≠ 119) {h₀ h : Heap} {L : Addr} (N : News h₀ L h ((119, tabObj #[]) :: restU H H2 D D2 t)) : ∀ q ∈ restU H H2 D D2 t, q.1 ≠ 119 := by
  intro q hq
  have hq' := hq
  unfold restU at hq
  simp only [List.mem_cons, List.mem_append] at hq
  have go : (∀ vs, q.2.data ≠ .fields vs) → q.1 ≠ 119 := fun h => apart_of N (o := q.2) (o2 := tabObj #[]) (.tail _ hq') (.head _) (ne_tab h)
  rcases hq with rfl | rfl | h | h | h
  · exact go fun vs e => by cases e
  · exact go fun vs e => by cases e
  · obtain ⟨p, _, rfl⟩ := List.mem_map.mp h; exact go fun vs e => by cases e
  · obtain ⟨p, _, rfl⟩ := List.mem_map.mp h; exact go fun vs e => by cases e
  · exact h1 q h
theorem dis_str {x dx S : Addr} {its vs : Array Value} {n nn : Nat} {dob : Obj} {ps : Array Value} {ex U : Ledg} {R : List Part} (hdo : OwnDict dob) (hT : Tab 132 32 qStr ps ex) (hex : ∀ p ∈ ex, ∀ q ∈ U, p.1 ≠ q.1) (h119 : ∀ q ∈ U, q.1 ≠ 119)
    (hUs : ∀ q ∈ U, ∀ a ta b tb, q.2 ≠ tup2 (.str a ta) (.str b tb)) (hUo : ∀ q ∈ U, Oth q.2) {h₀ h : Heap} {L : Addr} (N : News h₀ L h ((((119, tabObj ps) :: ex) ++ (x, accObj dx its n) :: (dx, dob) :: rLed R) ++ ((S, listOf vs nn) :: U))) :
    ∀ p ∈ (S, listOf vs nn) :: U, p.1 ∉ ((((119, tabObj ps) :: ex) ++ (x, accObj dx its n) :: (dx, dob) :: rLed R)).map (·.1) := by
  intro p hp hm
  obtain ⟨q, hq, e⟩ := List.mem_map.mp hm
  have so : q.2 = p.2 := sameObj N (List.mem_append_left _ hq) (List.mem_append_right _ hp) e
  have hpo : Oth p.2 := by
    rcases List.mem_cons.mp hp with rfl | hp
    · exact .inr (.inr (.inl rfl))
    · exact hUo p hp
  rcases List.mem_append.mp hq with hq | hq
  · rcases List.mem_cons.mp hp with rfl | hp
    · rcases List.mem_cons.mp hq with rfl | hq
      · cases so
      · refine hideG ?_; intro HP back; obtain ⟨vs', _, a, _⟩ := hT.mem hq; refine back ?_; clear back HP
        rw [so] at a
        cases a
    · rcases List.mem_cons.mp hq with rfl | hq
      · exact h119 p hp e.symm
      · exact hex q hq p hp e
  · rcases List.mem_cons.mp hq with rfl | hq
    · exact acc_not_oth (so ▸ hpo)
    rcases List.mem_cons.mp hq with rfl | hq
    · rw [← so] at hpo
      exact dob_not_oth hdo hpo
    · obtain ⟨r, _, rfl⟩ := List.mem_map.mp hq
      rcases List.mem_cons.mp hp with rfl | hp
      · exact absurd (show Value.type "tuple" = Value.type "list" from congrArg Obj.cls so) (by decide)
      · exact hUs p hp _ _ _ _ so.symm
theorem perG_le {N : Int} {wd : Nat} : ∀ {n p : Nat}, perG N wd n p ≤ p + n
  | 0, p => Nat.le_refl _
  | n + 1, p => by
    unfold perG
    split
    · exact Nat.le_trans (perG_le (n := n) (p := p + 1)) (by omega)
    · omega
theorem allLt_mem {d : Addr} {l : Ledg} (h : AllLt d l) : ∀ q ∈ l, q.1 < d := by
  induction l with
  | nil => intro q hq; cases hq
  | cons p r ih =>
    intro q hq
    have h1 : @LT.lt Nat _ p.1 d ∧ AllLt d r := h
    rcases List.mem_cons.mp hq with e | hq
    · rw [e]; exact h1.1
    · exact ih h1.2 q hq
theorem cutSizes_step {W : Str} {p n : Nat} (h : n < 8) : cutSizes W p n = cutSizes W p (n + 1) ++ [cutSize W p n] := by
  unfold cutSizes
  rw [List.drop_eq_getElem_cons (by simpa using h), List.reverse_cons, List.map_append, List.getElem_range]
  rfl
theorem sub_nodot {W : Str} (hc : ∀ c ∈ W.cps.toList, 97 ≤ c ∧ c ≤ 99) {l : List Nat} (h : ∀ c ∈ l, c ∈ W.cps.toList) : 46 ∉ (sub l).cps.toList := by
  rw [sub_cps]
  intro q
  have := hc _ (h _ q)
  omega
theorem phF (w : World) (next : Stretch w 15 AfterF) : Stretch w 12 AfterE := by
  unfold Stretch
  refine' atLaw_intro ?k6 ?_; (case k6 => k_is)
  refine' nextUse next ?k7 ?_; (case k7 => k_is)
  intro nx mean mg mb gh L fa cd s Q RR m news CX F N G fin
  intro  hzz
  refine hideG ?_; intro HP back; obtain ⟨W, tw, H, H2, D, D2, t, wd, tp, x, dx, dob, P, hW, hc, e1, w1, w2, e2, hH, hH2, ht, a119, e3, e4, e5, hdx, hdo, hP, hnews⟩ := hzz; refine back ?_; clear back HP
  obtain ⟨X', T', B'⟩ := CX
  dsimp only [List.drop] at nx ⊢
  (try k_fold)
  rw [cn5 e1 e2 e3 e4 e5] at F
  subst hnews
  repeat' (first | (k_unfold; (try dsimp only)) | ((fail_if_success (with_reducible show wpAny _ _ (exec (Stmt.While _ _ _ _) _) _ _ _)); first | walk1 | (dsimp only; walk1)))
  with_reducible rename Fr _ _ _ _ => F2
  with_reducible rename News _ _ _ _ => N2
  obtain ⟨S, hS⟩ := headOf N2
  subst hS
  have hWl : W.cps.toList.length = 8 := by rw [← str_len]; exact hW
  have hPl : P.length = 8 := by simpa using congrArg List.length hP
  have N119 : News gh L _ ((119, tabObj #[]) :: restU H H2 D D2 t) := newsSub N2 (fun p hp => by
    simp only [List.mem_cons, List.mem_append] at hp ⊢
    rcases hp with h | h <;> simp only [h, true_or, or_true])
  have hU119 := restU_119 a119 N119
  clear N119
  have hUs := restU_nostr (H := H) (H2 := H2) (D := D) (D2 := D2) ht
  have hp8 : perG (numOf wd W) wd 7 1 ≤ 8 := perG_le
  have hSU : ∀ q ∈ restU H H2 D D2 t, q.1 ≠ S := by
    intro q hq
    have lS : AllLt S (rLed P ++ restU H H2 D D2 t) := by
      rename _ ∧ _ ∧ _ ∧ AllLt S _ => lD
      exact lD.2.2.2
    exact Nat.ne_of_lt (allLt_mem lS _ (List.mem_append_right _ hq))
  generalize hU : restU H H2 D D2 t = U at *
  have hUo : ∀ q ∈ U, Oth q.2 := by rw [← hU]; exact restU_oth ht
  generalize hper : perG (numOf wd W) wd 7 1 = per at *
  refine While_invG (n₀ := 8) (fun n m1 nw => n ≤ 8 ∧ ∃ R k vs nn ps ex tb, R.map (fun p => (p.a, p.b)) = (List.range n).map (pk W) ∧ IntsAre vs (cutSizes W per n) ∧ Tab 132 32 qStr ps ex ∧ (∀ p ∈ ex, ∀ q ∈ U, p.1 ≠ q.1) ∧
    m1 (Str.ofString "word") = some (.str W tw) ∧ m1 (Str.ofString "period") = some (.int ((per : Nat) : Int) tp) ∧ m1 (Str.ofString "halves") = some (.ref D) ∧ m1 (Str.ofString "turned") = some (.ref D2) ∧ m1 (Str.ofString "row") = some (.ref x) ∧ m1 (Str.ofString "behind") = some (.str (sub (W.cps.toList.drop n)) tb) ∧ m1 (Str.ofString "sizes") = some (.ref S) ∧
    nw = (S, listOf vs.toArray nn) :: (x, accObj dx (rIts R).toArray k) :: (dx, dob) :: (119, tabObj ps) :: (ex ++ (rLed R ++ U))) F2 N2 G ?_ ?_
  · refine ⟨Nat.le_refl _, P, 8, [], 0, #[], [], s.toks, hP, ?_, .none, (fun p hp => nomatch hp), rfl, rfl, rfl, rfl, rfl, ?_, rfl, rfl⟩
    · exact .nil
    · rw [show W.cps.toList.drop 8 = [] from List.drop_eq_nil_of_le (by omega)]; rfl
  intro n m1 nw h1 tk1 gs1 F1 N1 G1 hzz
  refine hideG ?_; intro HP back; obtain ⟨hn8, R, k, vs, nn, ps, ex, tb, hR, hI, hT, hex, f1, f2, f3, f4, f5, f6, f7, rfl⟩ := hzz; refine back ?_; clear back HP
  rw [cn7 f1 f2 f3 f4 f5 f6 f7] at F1
  clear F2 N2
  have hRl : R.length = n := by simpa using congrArg List.length hR
  have hsh := hdo.shadow (Str.ofString "part_count") (by decide)
  repeat' (first | (k_unfold; (try dsimp only)) | ((fail_if_success (with_reducible show wpAny _ _ (call (Value.ref 147) _) _ _ _)); first | walk1 | (dsimp only; walk1)))
  have exo : ∀ q ∈ ex, Oth q.2 := fun q hq => by obtain ⟨vs, _, a, _⟩ := hT.mem hq; exact .inl ⟨vs, a⟩
  have restO : ∀ q ∈ (S, listOf vs.toArray nn) :: (119, tabObj ps) :: (ex ++ (rLed R ++ U)), Oth q.2 := by
    intro q hq
    simp only [List.mem_cons, List.mem_append] at hq
    rcases hq with rfl | rfl | h | h | h
    · exact .inr (.inr (.inl rfl))
    · exact .inl ⟨_, rfl⟩
    · exact exo q h
    · exact rLed_oth q h
    · exact hUo q h
  refine CallOk.use ((count_ok w mean mg mb x dx (rIts R) k dob).frame ((S, listOf vs.toArray nn) :: (119, tabObj ps) :: (ex ++ (rLed R ++ U))) (fun _ _ _ N => dis_acc hdo restO N)) B' F1 X' (newsSub N1 ?_) T' rfl (by ktr_room) (by ktr_units) ?_
  · intro p hp
    simp only [List.mem_cons, List.mem_append, List.cons_append, List.nil_append] at hp ⊢
    rcases hp with h | h | h | h | h | h | h <;> simp only [h, true_or, or_true]
  intro r1 nw1 h2 tk2 F3 N3 K1 hr1
  refine hideG ?_; intro HP back; obtain ⟨nw2, rfl, hap, tc, rfl, rfl⟩ := hr1; refine back ?_; clear back HP
  clear F1 N1
  have hlen : ((rIts R).length : Int) = (n : Int) := by rw [List.length_map, hRl]
  rw [hlen]
  dsimp only
  repeat' (first | (k_unfold; (try dsimp only)) | ((fail_if_success (with_reducible show wpAny _ _ (execs (_ :: _) _) _ _ _)); first | walk1 | (dsimp only; walk1)))
  · with_reducible rename Fr _ _ _ _ => F4
    with_reducible rename News _ _ _ _ => N4
    obtain ⟨n', rfl⟩ : ∃ n', n = n' + 1 := ⟨n - 1, by omega⟩
    obtain ⟨R', q, rfl⟩ : ∃ R' q, R = R' ++ [q] := ⟨R.dropLast, R.getLast (by intro e; rw [e] at hRl; cases hRl), (List.dropLast_concat_getLast _).symm⟩
    rw [List.map_append, List.range_succ, List.map_append] at hR
    obtain ⟨hR1, hR2⟩ := List.append_inj' hR rfl
    have hq : (q.a, q.b) = pk W n' := by simpa using hR2
    have hR'l : R'.length = n' := by rw [List.length_append, List.length_singleton] at hRl; omega
    have eR : rIts (R' ++ [q]) = rIts R' ++ [.ref q.at_] := by simp
    have eL : rLed (R' ++ [q]) = rLed R' ++ [(q.at_, tup2 (.str q.a q.ta) (.str q.b q.tb))] := by simp
    have hsh2 := hdo.shadow (Str.ofString "pop") (by decide)
    repeat' (first | (k_unfold; (try dsimp only)) | ((fail_if_success (with_reducible show wpAny _ _ (call (Value.ref 110) _) _ _ _)); first | walk1 | (dsimp only; walk1)))
    rw [eR] at N4
    refine CallOk.use ((pop_ok w mean mg mb x dx (rIts R') (.ref q.at_) k dob hdx hsh (by rw [List.length_map, sizeLine_eq]; omega)).frame ((S, listOf vs.toArray nn) :: (119, tabObj ps) :: (ex ++ (rLed (R' ++ [q]) ++ U))) (fun _ _ _ N => dis_acc hdo restO N)) B' F4 X' (newsSub N4 ?_) T' rfl (by ktr_room) (by ktr_units) ?_
    · intro p hp
      simp only [List.mem_cons, List.mem_append, List.cons_append, List.nil_append] at hp ⊢
      rcases hp with h | h | h | h | h | h | h <;> simp only [h, true_or, or_true]
    intro r2 nw2 h3 tk3 F5 N5 K2 hr2
    refine hideG ?_; intro HP back; obtain ⟨nw3, rfl, hap2, rfl, rfl⟩ := hr2; refine back ?_; clear back HP
    clear F4 N4
    have N6 : News gh L h3 ((q.at_, tup2 (.str q.a q.ta) (.str q.b q.tb)) :: (S, listOf vs.toArray nn) :: (x, accObj dx (rIts R').toArray (k + 1)) :: (dx, dob) :: (119, tabObj ps) :: (ex ++ (rLed R' ++ U))) := newsSub N5 (fun p hp => by
      rw [eL]
      simp only [List.mem_cons, List.mem_append, List.cons_append, List.nil_append, List.not_mem_nil, or_false] at hp ⊢
      rcases hp with h | h | h | h | h | h | h | h <;> simp [h])
    clear N5
    have hn'8 : n' < W.cps.toList.length := by omega
    obtain ⟨ql1, ql2⟩ : q.a.length < 100 ∧ q.b.length < 100 := by
      have z := pk_len hn'8
      rw [← hq] at z
      exact z
    have hsl : (sub (W.cps.toList.drop (n' + 1))).length ≤ 8 := by rw [sub_len, List.length_drop]; omega
    dsimp only
    repeat' (first | (k_unfold; (try dsimp only)) | ((fail_if_success (with_reducible show wpAny _ _ (call (Value.type "str") _) _ _ _)); first | walk1 | (dsimp only; walk1)))
    with_reducible rename Fr _ _ _ _ => F7
    with_reducible rename News _ _ _ _ => N7
    refine' kso_call ?s1 (X'.keeps F7.keep) (accInst (N7 _ (.tail _ (.tail _ (.head _)))).1 (N7 _ (.tail _ (.tail _ (.tail _ (.head _))))).1) (k_mstr _) (k_fstr0 _) ?_
    case s1 => k_units
    have N8 : News gh L _ ((((119, tabObj ps) :: ex) ++ (x, accObj dx (rIts R').toArray (k + 1)) :: (dx, dob) :: rLed R') ++ ((S, listOf vs.toArray nn) :: U)) := newsSub N7 (fun p hp => by
      simp only [List.mem_cons, List.mem_append, List.cons_append, List.append_assoc] at hp ⊢
      rcases hp with h | h | h | h | h | h | h <;> simp only [h, true_or, or_true])
    have hPp : ∀ b ∈ (x, accObj dx (rIts R').toArray (k + 1)) :: (dx, dob) :: rLed R', b.1 ≠ 119 := by
      intro b hb
      refine apart_of N8 (o := b.2) (o2 := tabObj ps) (List.mem_append_left _ (List.mem_append_right _ hb)) (.head _) (ne_tab ?_)
      rcases List.mem_cons.mp hb with rfl | hb
      · intro vs e; cases e
      rcases List.mem_cons.mp hb with rfl | hb
      · intro vs e; exact dob_not_oth hdo (.inl ⟨vs, e⟩)
      · obtain ⟨p, _, rfl⟩ := List.mem_map.mp hb
        intro vs e; cases e
    have hlR : ∀ p ∈ R', p.a.length < 100 ∧ p.b.length < 100 := fun p hp => by
      have e : (p.a, p.b) ∈ (List.range n').map (pk W) := by rw [← hR1]; exact List.mem_map.mpr ⟨p, hp, rfl⟩
      obtain ⟨j, hj, e⟩ := List.mem_map.mp e
      have z := pk_len (W := W) (k := j) (by have := List.mem_range.mp hj; omega)
      rw [e] at z
      exact z
    refine CallOkG.use ((str_ok w mean mg mb x dx R' (k + 1) dob hT (by omega) hlR hPp).frame ((S, listOf vs.toArray nn) :: U) (fun _ _ _ N => ?_)) B' F7 X' N8 T' rfl (by ktr_room) (by ktr_units) G1 ?_
    · exact dis_str hdo hT hex hU119 hUs hUo N
    intro r3 nw4 h4 tk4 gs4 F9 N9 K3 G4 hr3
    refine hideG ?_; intro HP back; obtain ⟨nw5, rfl, hap3, ps', ex', tS, hT', rfl, rfl⟩ := hr3; refine back ?_; clear back HP
    rw [ahead_all (by omega) hR1]
    clear F7 N7 N8
    show wpAny _ _ _ _ _ _
    have N10 : News gh L h4 ((S, listOf vs.toArray nn) :: (x, accObj dx (rIts R').toArray (k + 1)) :: (dx, dob) :: (119, tabObj ps') :: (ex' ++ (rLed R' ++ U))) := newsSub N9 (fun p hp => by
      simp only [List.mem_cons, List.mem_append, List.cons_append, List.append_assoc] at hp ⊢
      rcases hp with h | h | h | h | h | h | h <;> simp only [h, true_or, or_true])
    clear N9
    rw [behind_step hn'8 hq] at F9
    repeat' (first | (k_unfold; (try dsimp only)) | ((fail_if_success (with_reducible show wpAny _ _ (call (Value.ref 171) _) _ _ _)); first | walk1 | (dsimp only; walk1)))
    with_reducible rename Fr _ _ _ _ => F11
    with_reducible rename News _ _ _ _ => N11
    refine CallOk.use ((least_ok w mean mg mb (sub (W.cps.toList.take n')) (sub (W.cps.toList.drop n')) _ _ _ per (sub_nodot hc fun c h => List.mem_of_mem_take h) (sub_nodot hc fun c h => List.mem_of_mem_drop h) (by rw [sub_len, List.length_take]; omega) (by rw [sub_len, List.length_drop]; omega) hp8).frame _ (fun _ _ _ _ _ _ hh => nomatch hh)) B' F11 X' N11 T' rfl (by ktr_room) (by ktr_units) ?_
    intro r5 nw6 h5 tk5 F12 N12 K5 hr5
    refine hideG ?_; intro HP back; obtain ⟨nw7, rfl, hap5, rfl, tL, rfl⟩ := hr5; refine back ?_; clear back HP
    simp only [List.nil_append] at N12
    clear F11
    rw [show lsz (sub (W.cps.toList.take n')) (sub (W.cps.toList.drop n')) per 0 = cutSize W per n' from rfl]
    dsimp only
    repeat' (first | (k_unfold; (try dsimp only)) | ((fail_if_success (with_reducible show wpAny _ _ (call (Value.builtin "list.append") _) _ _ _)); first | walk1 | (dsimp only; walk1)))
    have hS : ∀ p ∈ (x, accObj dx (rIts R').toArray (k + 1)) :: (dx, dob) :: (119, tabObj ps') :: (ex' ++ (rLed R' ++ U)), p.1 ≠ S := by
      intro p hp
      have told : ∀ p ∈ ((119, tabObj ps') :: ex') ++ (x, accObj dx (rIts R').toArray (k + 1)) :: (dx, dob) :: rLed R', p.1 ≠ S := fun p hp => hap3 p hp _ (.head _)
      simp only [List.mem_cons, List.mem_append] at hp
      rcases hp with h | h | h | h | h | h
      · exact told p (List.mem_append_right _ (by rw [h]; exact .head _))
      · exact told p (List.mem_append_right _ (.tail _ (by rw [h]; exact .head _)))
      · exact told p (List.mem_append_left _ (by rw [h]; exact .head _))
      · exact told p (List.mem_append_left _ (.tail _ h))
      · exact told p (List.mem_append_right _ (.tail _ (.tail _ h)))
      · exact hSU p h
    have hvl : vs.length ≤ 8 := by
      rw [hI.length]; unfold cutSizes; simp only [List.length_map, List.length_reverse, List.length_drop, List.length_range]; omega
    refine append_K F12 N12 (Upd.head hS) ?_ (by rw [List.size_toArray, sizeLine_eq]; omega)
    intro h6 F13 N13
    rw [List.push_toArray] at N13
    clear F12 N12
    k_steps
    refine ⟨rfl, h6, _, gs4, _, _, n', rfl, F13, N13, G4, by omega, by omega, R', k + 1, vs ++ [Value.int (cutSize W per n') tL], nn + 1, ps', ex', _, hR1, ?_, hT', (fun p hp q hq => hap3 p (List.mem_append_left _ (.tail _ hp)) q (.tail _ hq)), rfl, rfl, rfl, rfl, rfl, rfl, rfl, rfl⟩
    rw [cutSizes_step (by omega)]
    exact ints_app hI (.cons _ _ .nil)
  · have hn0 : n = 0 := by omega
    subst hn0
    refine nx mean mg mb gh L fa cd _ Q RR _ ((S, listOf vs.toArray nn) :: (119, tabObj ps) :: (ex ++ U)) ⟨X', T', B'⟩ F3 (newsSub N3 ?_) G1 (fin.to _ _ _) ⟨W, tw, H, H2, D, D2, t, wd, tp, tb, S, vs, nn, ps, ex, hW, hc, rfl, w1, w2, by rw [hper]; rfl, hH, hH2, ht, rfl, rfl, ?_, rfl, by rw [hper]; exact hI, by rw [hU]⟩
    · intro p hp
      simp only [List.mem_cons, List.mem_append, List.cons_append, List.nil_append] at hp ⊢
      rcases hp with h | h | h | h <;> simp only [h, true_or, or_true]
    · have e : sub (W.cps.toList.drop 0) = W := str_ext (by rw [sub_cps]; rfl)
      rw [← e]; rfl
end Mine
end
-- CGre
section
open PySem PySem.W PyProof.Rows PySem.Calls
set_option maxRecDepth 100000
set_option maxHeartbeats 4000000
namespace Mine
theorem off20 : True := by
  w_top off
  k_with_none
  exact trivial
theorem fill24 : (Challenge.rw_re0104_01, hd.heap_1) = (Challenge.rw_re0104_01, hd.heap_1) := by
  k_fill
  rfl
theorem weight_ints : ∀ {ns : List Int}, (∀ n ∈ ns, Builtin.Int.intBits n ≤ 200) → PyData.weightAll (ns.map .int) ≤ 201 * ns.length
  | [], _ => Nat.zero_le _
  | n :: r, h => by
    have ih := weight_ints (ns := r) fun x hx => h x (.tail _ hx)
    have h0 := h n (.head _)
    have e : PyData.weight (.int n) = Builtin.Int.intBits n := by simp only [PyData.weight, Builtin.Int.intBits]
    simp only [List.map_cons, PyData.weightAll, List.length_cons, e]
    omega
theorem lay_ints {ns : List Int} (h : ∀ n ∈ ns, Builtin.Int.intBits n ≤ 200) (hl : ns.length ≤ 100) : PyData.layable0 (.list (ns.map .int)) = true := by
  have hw := weight_ints h
  show (PyData.canLay0 (.list (ns.map .int)) && decide (PyData.depth (.list (ns.map .int)) ≤ 64) && decide (PyData.weight (.list (ns.map .int)) ≤ 2 ^ 20)) = true
  rw [Bool.and_eq_true, Bool.and_eq_true]
  refine ⟨⟨?_, ?_⟩, decide_eq_true ?_⟩
  · simp only [PyData.canLay0, canLayAll_ints]
  · simp only [PyData.depth, PyProof.Rows.depthAll_ints]
    decide
  · simp only [PyData.weight]
    have : (2 : Nat) ^ 20 = 1048576 := by decide
    omega
theorem great_ok (w : World) (mean : ExcName → Option Value) (mg mb : Str → Option Value) (D : Addr) (H : List Half) (nn : Nat) (hH : H.length = 9) (hY : ∀ p ∈ H, Builtin.Int.intBits p.y ≤ 200) :
    CallOk w mean mg mb ((D, listOf (hIts H).toArray nn) :: hLed H) 4 164 [.ref D] (fun r nw => ∃ M t, M ∈ H.map (·.y) ∧ (∀ a ∈ H.map (·.y), a ≤ M) ∧ r = .int (((H.map (·.y)).idxOf M : Nat) : Int) t ∧ nw = (D, listOf (hIts H).toArray nn) :: hLed H) := by
  unfold CallOk
  intro dp un gd cn cs a' ccd cl outer A₀ base h₀ L m s Q E B F X N T hk hdp hun hret
  refine wpAny_call ?_
  (refine' enter_K ?k1 ?k2 ?k3 ?k4 ?k5 ?kA ?kF ?kK ?k6 ?k7 ?k8 ?k9 ?kB ?_ ?c2 ?c3 ?c4 ?c5; (case kA => exact rfl); (case kF => exact rfl); (case kK => assumption); (case k1 => k_asm); (case k2 => k_asm); (case k3 => k_asm); (case k4 => k_asm); (case k5 => k_asm); (case k6 => k_is); (case k7 => k_is); (case k8 => first | exact room0 hdp | ktr_room); (case k9 => exact BindsTo.of_eq rfl); (case c5 => decide); (case kB => exact locs rfl); (case c2 => exact rfl); (case c3 => exact rfl); (case c4 => exact rfl); k_whole; intro g L' h' G FG F' N' B' X' T' l1; (try dsimp only); (try k_fold))
  walk1
  walk1
  have F2 := F'
  refine LCp.Assign_ListComp_P (F₀ := F2) rfl (by with_unfolding_all rfl) (by with_unfolding_all rfl) (by decide) (by rfl) (by decide) (by rfl) (by rfl) (by decide) (by rfl) (by rfl) ?_
  walk1
  have N2 := N'
  refine LCp.SrcLP.ledger rfl F2 N2 (.head _) (by simp [hH, sizeLine_eq]) ?_
  intro g9
  have hsz : (hIts H).toArray.size = 9 := by simp [hH]
  rw [hsz]
  refine compP_ind 9 (fun i ys news => news = (D, listOf (hIts H).toArray nn) :: hLed H ∧ ys = (H.take i).map fun p => .int p.y p.ty) ?_ ?_ 9 0 [] _ rfl ?_
  · rintro ys news ⟨rfl, rfl⟩
    rw [List.take_of_length_le (by omega)]
    intro D9 h9 tk9 F9 N9 o9
    have hI : IntsAre (H.map fun p => Value.int p.y p.ty) (H.map (·.y)) := by
      clear hY N9 F9 o9 hsz hH N2 F2 hret N N' G l1
      induction H with
      | nil => exact .nil
      | cons p r ih => exact .cons _ _ ih
    clear N2 F2
    dsimp only
    have hI2 : IntsAre (H.map fun p => Value.int p.y p.ty) (H.map (·.y)) := hI
    repeat' (first | (k_unfold; (try dsimp only)) | ((fail_if_success (with_reducible show wpAny _ _ (call (Value.builtin "max") _) _ _ _)); first | walk1 | (dsimp only; walk1)))
    with_reducible rename Fr _ _ _ _ => F3
    with_reducible rename News _ _ _ _ => N3
    refine kso_max F3 N3 ⟨_, (N3 _ (.head _)).1, rfl, _, rfl⟩ hI2 (by rw [List.length_map, hH]; decide) rfl ?_
    intro h10 M t10 tk10 F10 N10 hM hMx
    clear F3 N3
    repeat' (first | (k_unfold; (try dsimp only)) | ((fail_if_success (with_reducible show wpAny _ _ (call (Value.builtin "list.index") _) _ _ _)); first | walk1 | (dsimp only; walk1)))
    refine index_list_ints ⟨_, (N10 _ (.head _)).1, rfl, _, rfl⟩ hI2 ?_ hM ?_
    · exact lay_ints (fun n hn => by obtain ⟨p, hp, rfl⟩ := List.mem_map.mp hn; exact hY p hp) (by rw [List.length_map, hH]; decide)
    dsimp only
    k_steps
    with_reducible rename Fr h₀ _ _ _ => Fe
    with_reducible rename News h₀ _ _ _ => Ne
    exact hret _ _ _ _ Fe (newsSub Ne fun p hp => .tail _ hp) (G.back F10 (newsSub N10 fun p hp => .tail _ hp)) ⟨M, _, hM, hMx, rfl, rfl⟩
  · rintro i ys news hi ⟨rfl, rfl⟩ v hv
    have hi' : i < H.length := by omega
    have e1 : (hIts H).toArray[i]? = some (.ref H[i].at_) := by simp [hi']
    rw [e1] at hv
    cases hv
    refine ⟨_, tup2 (.int H[i].x H[i].tx) (.int H[i].y H[i].ty), .int H[i].x H[i].tx, .int H[i].y H[i].ty, _, rfl, .tail _ (List.mem_map.mpr ⟨H[i], List.getElem_mem _, rfl⟩), rfl, rfl, ?_⟩
    intro I oI C oC D2 m2 h7 tk7 E7 hC hx hy F7 N7 off7 ne7
    clear N2 F2
    refine LCgL.ld_own N7 (.tail _ (.head _)) hC hy ?_ rfl (by with_unfolding_all rfl)
    refine LCg.CompEnd.intro F7 N7 ((D, listOf (hIts H).toArray nn) :: hLed H) (fun _ h => h) off7 (.inr ⟨_, .head _, rfl, _, rfl⟩) ⟨rfl, ?_⟩
    rw [List.take_add_one, List.map_append, List.getElem?_eq_getElem hi']
    rfl
  · exact ⟨rfl, rfl⟩
end Mine
end
-- LG
section
open PySem PySem.W PyProof.Rows PySem.Calls PySem.Spec
namespace Mine
theorem off21 : True := by
  w_top off
  k_with_none
  exact trivial
set_option maxRecDepth 100000
set_option maxHeartbeats 4000000
theorem fill36 : (Challenge.rw_re0104_01, hd.heap_1) = (Challenge.rw_re0104_01, hd.heap_1) := by
  k_fill
  rfl
theorem small9 : ∀ n : Nat, n ≤ 7 → Builtin.Range.small 1 (9 - (n : Int)) 1 = true := by decide +kernel
/-- the window's width -/
def winOf (p : Nat) : Nat := if p > 2 then p - 1 else 1
theorem winOf_eq (p : Nat) : (if (p : Int) - 1 > 1 then (p : Int) - 1 else 1) = (winOf p : Int) := by
  unfold winOf
  split <;> split <;> omega
/-- the plain law: what is left to say of words, without the program -/
structure Plain1 (W : Str) (wd : Nat) : Prop where
  p1 : 1 ≤ perG (numOf wd W) wd 7 1
  nz : ((cutSizes W (perG (numOf wd W) wd 7 1) 0).reverse.any fun x => x == 0) = false
  win : ∀ k, 1 ≤ k → k < 9 - winOf (perG (numOf wd W) wd 7 1) → ((perG (numOf wd W) wd 7 1 : Nat) : Int) ∈ ((cutSizes W (perG (numOf wd W) wd 7 1) 0).reverse.drop k).take (winOf (perG (numOf wd W) wd 7 1))
  late : ∀ M M2 : Int, (M ∈ (List.range 9).map fun i => (hv (numOf wd W) wd i).2) → (∀ a ∈ (List.range 9).map fun i => (hv (numOf wd W) wd i).2, a ≤ M) → (M2 ∈ (List.range 9).map fun i => (hv (numOf2 wd W) wd i).2) → (∀ a ∈ (List.range 9).map fun i => (hv (numOf2 wd W) wd i).2, a ≤ M2) →
    (max (((List.range 9).map fun i => (hv (numOf wd W) wd i).2).idxOf M) (((List.range 9).map fun i => (hv (numOf2 wd W) wd i).2).idxOf M2)) < perG (numOf wd W) wd 7 1 ∧
    (cutSizes W (perG (numOf wd W) wd 7 1) 0).reverse[max (((List.range 9).map fun i => (hv (numOf wd W) wd i).2).idxOf M) (((List.range 9).map fun i => (hv (numOf2 wd W) wd i).2).idxOf M2)]? = some ((perG (numOf wd W) wd 7 1 : Nat) : Int)
/-- behind the tests -/
structure AfterG (m : Str → Option Value) (news : Ledg) : Prop where
  is : ∃ W H H2 D D2 t wd tp S2 ws ps ex, W.length = 8 ∧ (∀ c ∈ W.cps.toList, 97 ≤ c ∧ c ≤ 99) ∧ 2 ≤ wd ∧ wd ≤ 12 ∧ m (Str.ofString "period") = some (.int ((perG (numOf wd W) wd 7 1 : Nat) : Int) tp) ∧
      H.map (fun p => (p.x, p.y)) = (List.range 9).map (hv (numOf wd W) wd) ∧ H2.map (fun p => (p.x, p.y)) = (List.range 9).map (hv (numOf2 wd W) wd) ∧
    Tabs t ∧ m (Str.ofString "halves") = some (.ref D) ∧ m (Str.ofString "turned") = some (.ref D2) ∧ m (Str.ofString "sizes") = some (.ref S2) ∧ IntsAre ws (cutSizes W (perG (numOf wd W) wd 7 1) 0).reverse ∧
    news = (S2, listOf ws.toArray 0) :: (119, tabObj ps) :: (ex ++ restU H H2 D D2 t)
theorem phG (w : World) (next : Stretch w 19 AfterG) (PL : ∀ W wd, W.length = 8 → (∀ c ∈ W.cps.toList, 97 ≤ c ∧ c ≤ 99) → 2 ≤ wd → wd ≤ 12 → Plain1 W wd) : Stretch w 15 AfterF := by
  unfold Stretch
  refine' atLaw_intro ?k6 ?_; (case k6 => k_is)
  refine' nextUse next ?k7 ?_; (case k7 => k_is)
  intro nx mean mg mb gh L fa cd s Q RR m news CX F N G fin
  intro  hzz
  refine hideG ?_; intro HP back; obtain ⟨W, tw, H, H2, D, D2, t, wd, tp, tb, S, vs, nn, ps, ex, hW, hc, e1, w1, w2, e2, hH, hH2, ht, e3, e4, e5, e6, hI, hnews⟩ := hzz; refine back ?_; clear back HP
  obtain ⟨X', T', B'⟩ := CX
  dsimp only [List.drop] at nx ⊢
  (try k_fold)
  rw [cn6 e1 e2 e3 e4 e5 e6] at F
  generalize hU : restU H H2 D D2 t = U at *
  refine hideG ?_; intro HP back; obtain ⟨p1, pnz, pwin, plate⟩ := PL W wd hW hc w1 w2; refine back ?_; clear back HP
  have hp8 : perG (numOf wd W) wd 7 1 ≤ 8 := perG_le
  generalize hper : perG (numOf wd W) wd 7 1 = per at *
  generalize hcs : cutSizes W per 0 = cs at *
  have hcl : cs.length = 8 := by rw [← hcs]; rfl
  subst hnews
  repeat' (first | (k_unfold; (try dsimp only)) | ((fail_if_success (with_reducible show wpAny _ _ (exec (Stmt.For _ _ _ _ _) _) _ _ _)); first | walk1 | (dsimp only; walk1)))
  · exfalso
    with_reducible rename ((W != W) = true) => hne
    simp at hne
  · exfalso
    with_reducible rename (_ ≠ (8 : Int)) => hne
    rw [List.length_reverse, hcl] at hne
    exact hne rfl
  with_reducible rename Fr _ _ _ _ => F2
  with_reducible rename News _ _ _ _ => N2
  rw [winOf_eq] at F2
  have hw17 : id (1 ≤ winOf per ∧ winOf per ≤ 7) := by unfold id winOf; split <;> omega
  generalize hwin : winOf per = win at *
  obtain ⟨S2, hS2⟩ := headOf N2
  subst hS2
  refine For_invVF F2 rfl rfl ?_
  repeat' (first | (k_unfold; (try dsimp only)) | ((fail_if_success (with_reducible show wpAny _ _ (pyIter _) (fun it s₂ => LoopAtV _ _ _ _ _ _ _ _ _ it s₂) _ _)); first | walk1 | (dsimp only; walk1)))
  obtain ⟨w1', w8'⟩ : 1 ≤ win ∧ win ≤ 7 := hw17
  with_reducible rename Fr _ _ _ _ => F3
  with_reducible rename News _ _ _ _ => N3
  with_reducible rename IsRange _ _ _ _ _ _ _ _ => R3
  with_reducible rename IntsAre _ cs.reverse => hI3
  refine hideG ?_; intro HP back; obtain ⟨ws, cr, q1, q2, hI4⟩ := intsVs hI3; refine back ?_; clear back HP
  subst q1 q2
  refine iter_rangeUnr (n := 8 - win) rfl R3 (small9 win w8') (by unfold Builtin.Range.rangeSize; simp; omega) F3 N3 ?_
  intro I lI
  refine range_ind (8 - win) (fun i m2 nw => m2 (Str.ofString "period") = some (.int ((per : Nat) : Int) tp) ∧ m2 (Str.ofString "halves") = some (.ref D) ∧ m2 (Str.ofString "turned") = some (.ref D2) ∧ m2 (Str.ofString "sizes") = some (.ref S2) ∧ (∃ tk, m2 (Str.ofString "window") = some (.int (win : Int) tk)) ∧
    nw = (S2, listOf ws.toArray 0) :: (S, listOf vs.toArray nn) :: (119, tabObj ps) :: (ex ++ U)) ?_ ?_ (8 - win) 0 _ _ (by omega) ?_
  · intro m2 nw hzz h5 tk5 F5 N5
    refine hideG ?_; intro HP back; obtain ⟨f1, f2, f3, f4, ⟨tkw, f5⟩, rfl⟩ := hzz; refine back ?_; clear back HP
    clear F3 N3
    dsimp only
    refine nx mean mg mb gh L fa cd _ Q RR m2 ((S2, listOf ws.toArray 0) :: (119, tabObj ps) :: (ex ++ U)) ⟨X', T', B'⟩ F5 (newsSub N5 ?_) G (fin.to _ _ _) ⟨W, H, H2, D, D2, t, wd, tp, S2, ws, ps, ex, hW, hc, w1, w2, by rw [hper]; exact f1, hH, hH2, ht, f2, f3, f4, by rw [hper, hcs]; exact hI4, by rw [hU]⟩
    intro p hp
    simp only [List.mem_cons] at hp ⊢
    rcases hp with h | h | h <;> simp only [h, true_or, or_true]
  · intro i m2 nw hi hzz t5 h5 tk5 F5 N5
    refine hideG ?_; intro HP back; obtain ⟨f1, f2, f3, f4, ⟨tkw, f5⟩, rfl⟩ := hzz; refine back ?_; clear back HP
    rw [cn5 f1 f2 f3 f4 f5] at F5
    clear F3 N3
    repeat' (first | (k_unfold; (try dsimp only)) | ((fail_if_success (with_reducible show UnrPost _ _ _ _ _ _ _ _ _)); first | walk1 | (dsimp only; walk1)))
    all_goals with_reducible rename Fr _ _ _ _ => F6
    all_goals with_reducible rename News _ _ _ _ => N6
    all_goals with_reducible rename (List.any _ _ = _) => hany
    all_goals have hin := pwin (1 + i) (by omega) (by omega)
    all_goals rw [show (1 + (i : Int)).toNat = 1 + i by omega, show min (1 + (i : Int) + (win : Int)).toNat cs.reverse.length - (1 + i) = win by rw [List.length_reverse, hcl]; omega] at hany
    · refine ⟨_, _, _, (S2, listOf ws.toArray 0) :: (S, listOf vs.toArray nn) :: (119, tabObj ps) :: (ex ++ U), rfl, F6, newsSub N6 ?_, fun p hp => Nat.ne_of_lt (lI p hp), rfl, rfl, rfl, rfl, ⟨_, rfl⟩, rfl⟩
      intro p hp
      simp only [List.mem_cons] at hp ⊢
      rcases hp with h | h | h | h | h <;> simp only [h, true_or, or_true]
    · exfalso
      rw [List.any_eq_false] at hany
      exact hany _ hin (by simp)
  · exact ⟨rfl, rfl, rfl, rfl, ⟨_, rfl⟩, rfl⟩
end Mine
end
-- FrS
section
open PySem PySem.W PyProof.Rows PySem.Calls
namespace Mine
/-- a call that leaves what it was told as it stood leaves the rest too -/
theorem CallOk.frameSame {w : World} {mean : ExcName → Option Value} {mg mb : Str → Option Value} {news : Ledg} {D : Nat} {f : Addr} {args : List Value} {Post : Value → Ledg → Prop} (C : CallOk w mean mg mb news D f args Post) (hs : ∀ r nw, Post r nw → nw = news) (rest : Ledg) :
    CallOk w mean mg mb (news ++ rest) D f args (fun r nw => nw = news ++ rest ∧ Post r news) := by
  intro dp un gd cn cs a' ccd cl outer A₀ base h₀ L m s Q E B F X N T hk hdp hun hret
  refine C.use B F X (fun p hp => N p (List.mem_append_left _ hp)) T hk hdp hun fun r news' h' tk' F' N' K' hp => ?_
  have e := hs _ _ hp
  subst e
  refine hret r (news' ++ rest) h' tk' F' (fun p hp => ?_) (K'.frame N) ⟨rfl, hp⟩
  rcases List.mem_append.mp hp with hp | hp
  · exact N' p hp
  · by_cases hm : p.1 ∈ news'.map (·.1)
    · obtain ⟨q, hq, e⟩ := List.mem_map.mp hm
      have so := sameObj N (List.mem_append_left _ hq) (List.mem_append_right _ hp) e
      have z := N' q hq
      have ep : q = p := Prod.ext e so
      rw [← ep]; exact z
    · exact ⟨K'.keep p.1 p.2 (N p (List.mem_append_right _ hp)).1 hm, (N p (List.mem_append_right _ hp)).2⟩
end Mine
end
-- LH
section
open PySem PySem.W PyProof.Rows PySem.Calls PySem.Spec
namespace Mine
theorem off22 : True := by
  w_top off
  k_with_none
  exact trivial
set_option maxRecDepth 100000
set_option maxHeartbeats 4000000
theorem fill37 : (Challenge.rw_re0104_01, hd.heap_1) = (Challenge.rw_re0104_01, hd.heap_1) := by
  k_fill
  rfl
theorem ends_bits {H : List Half} {N : Int} {wd : Nat} (h2 : wd ≤ 12) (hH : H.map (fun p => (p.x, p.y)) = (List.range 9).map (hv N wd)) : (∀ p ∈ H, Builtin.Int.intBits p.y ≤ 200) ∧ H.map (·.y) = (List.range 9).map fun i => (hv N wd i).2 := by
  have e : H.map (·.y) = (List.range 9).map fun i => (hv N wd i).2 := by
    have z := congrArg (List.map Prod.snd) hH
    rw [List.map_map, List.map_map] at z
    exact z
  refine ⟨fun p hp => ?_, e⟩
  have hm : p.y ∈ H.map (·.y) := List.mem_map.mpr ⟨p, hp, rfl⟩
  rw [e] at hm
  obtain ⟨i, _, q⟩ := List.mem_map.mp hm
  rw [← q]
  have b : (0 : Int) < 2 ^ (wd * 8) := Int.pow_pos (by decide)
  have lo := Int.fmod_nonneg_of_pos (N * 2 ^ (wd * i)) b
  have hi := Int.fmod_lt_of_pos (N * 2 ^ (wd * i)) b
  exact Nat.le_trans (bits_of_lt lo hi) (by omega)
theorem phH (w : World) (PL : ∀ W wd, W.length = 8 → (∀ c ∈ W.cps.toList, 97 ≤ c ∧ c ≤ 99) → 2 ≤ wd → wd ≤ 12 → Plain1 W wd) : Stretch w 19 AfterG := by
  unfold Stretch
  refine' atLaw_intro ?k6 ?_; (case k6 => k_is)
  intro mean mg mb gh L fa cd s Q RR m news CX F N G fin
  intro  hzz
  refine hideG ?_; intro HP back; obtain ⟨W, H, H2, D, D2, t, wd, tp, S2, ws, ps, ex, hW, hc, w1, w2, e2, hH, hH2, ht, e3, e4, e6, hI, hnews⟩ := hzz; refine back ?_; clear back HP
  obtain ⟨X', T', B'⟩ := CX
  dsimp only [List.drop]
  (try k_fold)
  rw [cn4 e2 e3 e4 e6] at F
  refine hideG ?_; intro HP back; obtain ⟨p1, pnz, pwin, plate⟩ := PL W wd hW hc w1 w2; refine back ?_; clear back HP
  have hp8 : perG (numOf wd W) wd 7 1 ≤ 8 := perG_le
  obtain ⟨hb1, he1⟩ := ends_bits w2 hH
  obtain ⟨hb2, he2⟩ := ends_bits w2 hH2
  have hl1 : H.length = 9 := by simpa using congrArg List.length hH
  have hl2 : H2.length = 9 := by simpa using congrArg List.length hH2
  rw [← he1, ← he2] at plate
  generalize hper : perG (numOf wd W) wd 7 1 = per at *
  subst hnews
  repeat' (first | (k_unfold; (try dsimp only)) | ((fail_if_success (with_reducible show wpAny _ _ (call (Value.ref 164) _) _ _ _)); first | walk1 | (dsimp only; walk1)))
  have N2 : News gh L s.heap (((D, listOf (hIts H).toArray 9) :: hLed H) ++ ((S2, listOf ws.toArray 0) :: (119, tabObj ps) :: (ex ++ ((D2, listOf (hIts H2).toArray 9) :: (hLed H2 ++ t))))) := newsSub N (fun p hp => by
    simp only [List.mem_cons, List.mem_append, List.cons_append, restU] at hp ⊢
    rcases hp with h | h | h | h | h | h | h | h <;> simp only [h, true_or, or_true])
  refine CallOk.use ((great_ok w mean mg mb D H 9 hl1 hb1).frameSame (fun r nw ⟨_, _, _, _, _, e⟩ => e) _) B' F X' N2 T' rfl (by ktr_room) (by ktr_units) ?_
  intro r1 nw1 h1 tk1 F1 N1 K1 hzz
  refine hideG ?_; intro HP back; obtain ⟨rfl, M, tM, hM, hMx, rfl, -⟩ := hzz; refine back ?_; clear back HP
  clear F
  rw [he1] at hM hMx
  (try dsimp only)
  repeat' (first | (k_unfold; (try dsimp only)) | ((fail_if_success (with_reducible show wpAny _ _ (call (Value.ref 164) _) _ _ _)); first | walk1 | (dsimp only; walk1)))
  with_reducible rename Fr _ _ _ _ => F2
  with_reducible rename News _ _ _ _ => N4
  have N5 : News gh L _ (((D2, listOf (hIts H2).toArray 9) :: hLed H2) ++ ((S2, listOf ws.toArray 0) :: (119, tabObj ps) :: (ex ++ t))) := newsSub N4 (fun p hp => by
    simp only [List.mem_cons, List.mem_append, List.cons_append] at hp ⊢
    rcases hp with h | h | h | h | h | h <;> simp only [h, true_or, or_true])
  refine CallOk.use ((great_ok w mean mg mb D2 H2 9 hl2 hb2).frameSame (fun r nw ⟨_, _, _, _, _, e⟩ => e) _) B' F2 X' N5 T' rfl (by ktr_room) (by ktr_units) ?_
  intro r2 nw2 h2 tk2 F3 N6 K2 hzz
  refine hideG ?_; intro HP back; obtain ⟨rfl, M2, tM2, hM2, hMx2, rfl, -⟩ := hzz; refine back ?_; clear back HP
  clear F2
  (try dsimp only)
  repeat' (first | (k_unfold; (try dsimp only)) | ((fail_if_success (with_reducible show wpAny _ _ (subscriptTail _ _ _ _) _ _ _)); first | walk1 | (dsimp only; walk1)))
  all_goals obtain ⟨pl1, pl2⟩ := plate M M2 (he1 ▸ hM) (he1 ▸ hMx) hM2 hMx2
  all_goals generalize hj1 : List.idxOf M (List.map (fun x => x.y) H) = j1 at *
  all_goals generalize hj2 : List.idxOf M2 (List.map (fun x => x.y) H2) = j2 at *
  all_goals have hmx : (if (j2 : Int) > (j1 : Int) then (j2 : Int) else (j1 : Int)) = ((max j1 j2 : Nat) : Int) := by split <;> omega
  all_goals rw [hmx] at *
  · with_reducible rename News _ _ _ _ => N8
    obtain ⟨tv, hv'⟩ := hI.get (max j1 j2) _ pl2
    refine PyProof.Rows.item_list (items := ws.toArray) ⟨_, (N8 (S2, listOf ws.toArray 0) (List.mem_append_right _ (.head _))).1, rfl, _, rfl⟩ (by omega) (by omega) (by rw [Int.toNat_natCast]; simpa using hv') ?_
    repeat' (first | (k_unfold; (try dsimp only)) | ((fail_if_success (with_reducible show wpAny _ _ (subscriptTail _ _ _ _) _ _ _)); first | walk1 | (dsimp only; walk1)))
    with_reducible rename Fr _ _ _ _ => F9
    with_reducible rename News _ _ _ _ => N9
    dsimp only
    rw [show ((per : Int) == (per : Int)) = true from by simp]
    refine hideG ?_; intro HP back; obtain ⟨q1, x1, q2, x2, t1, t2, rfl⟩ := ht.is; refine back ?_; clear back HP
    refine fin _ _ _ _ q1 q2 ps F9 (newsSub N9 ?_) G
    intro p hp
    simp only [List.mem_cons, List.mem_append, List.cons_append, List.not_mem_nil, or_false] at hp ⊢
    rcases hp with h | h | h <;> simp only [h, true_or, or_true]
  · exfalso
    omega
end Mine
end
-- PlnC
section
namespace Mine
/-- do the letters around place n agree at distance z (a word of 8 letters as a number of base 4)? -/
def fitC (N n z : Nat) : Bool :=
  (fun m => (fun q => Nat.beq (Nat.mod (Nat.shiftRight N (Nat.mul 2 (Nat.sub 8 m))) q) (Nat.mod (Nat.shiftRight N (Nat.mul 2 (Nat.sub (Nat.sub 8 m) z))) q)) (Nat.pow 4 (Nat.sub m (Nat.sub n z)))) (Nat.sub n (Nat.sub n (Nat.sub 8 z)))
/-- the least size at place n, from z on, at most k tries -/
def lszC (N n k : Nat) : Nat → Nat :=
  Nat.rec (fun _ => 0) (fun _ ih z => cond (fitC N n z) z (ih (Nat.succ z))) k
/-- the period from k on -/
def perC (N k : Nat) : Nat → Nat :=
  Nat.rec (fun k => k) (fun _ ih k => cond (Nat.beq (Nat.div N (Nat.pow 4 k)) (Nat.mod N (Nat.pow 4 (Nat.sub 8 k)))) k (ih (Nat.succ k))) k
/-- the first greatest ending -/
def topC (N k : Nat) : Nat → Nat → Nat → Nat :=
  Nat.rec (fun _ _ b => b) (fun _ ih i m b => (fun x => cond (Nat.ble x m) (ih (Nat.succ i) m b) (ih (Nat.succ i) x i)) (Nat.mod (Nat.mul N (Nat.pow 4 i)) 65536)) k
def latC (N : Nat) : Nat := topC N 9 0 0 0
def winC (p : Nat) : Nat := cond (Nat.ble p 2) 1 (Nat.sub p 1)
def allB (k : Nat) (f : Nat → Bool) : Bool := Nat.rec true (fun i ih => cond (f i) ih false) k
def anyB (k : Nat) (f : Nat → Bool) : Bool := Nat.rec false (fun i ih => cond (f i) true ih) k
def goodP (p a : Nat) (s : Nat → Nat) : Bool :=
  cond (Nat.ble (Nat.succ a) p) (cond (Nat.beq (s a) p) (cond (allB 8 fun n => Nat.ble 1 (s n)) (allB (Nat.sub 8 (winC p)) fun k => anyB (winC p) fun j => Nat.beq (s (Nat.add (Nat.succ k) j)) p) false) false) false
def goodC (N : Nat) : Bool :=
  (fun p => goodP p ((fun a b => cond (Nat.ble a b) b a) (latC N) (latC (Nat.sub 87380 N))) fun n => lszC N n p 1) (perC N 7 1)
def allC (k : Nat) : Nat → Bool :=
  Nat.rec (fun N => goodC N) (fun _ ih N => cond (ih (Nat.add (Nat.mul 4 N) 1)) (cond (ih (Nat.add (Nat.mul 4 N) 2)) (ih (Nat.add (Nat.mul 4 N) 3)) false) false) k
theorem allC_of {k N : Nat} (h1 : allC k (4 * N + 1) = true) (h2 : allC k (4 * N + 2) = true) (h3 : allC k (4 * N + 3) = true) : allC (k + 1) N = true := by
  show cond (allC k (4 * N + 1)) (cond (allC k (4 * N + 2)) (allC k (4 * N + 3)) false) false = true
  rw [h1, h2, h3]; rfl
theorem allC_get {k N : Nat} (h : allC (k + 1) N = true) : allC k (4 * N + 1) = true ∧ allC k (4 * N + 2) = true ∧ allC k (4 * N + 3) = true := by
  change cond (allC k (4 * N + 1)) (cond (allC k (4 * N + 2)) (allC k (4 * N + 3)) false) false = true at h
  revert h
  cases allC k (4 * N + 1) <;> cases allC k (4 * N + 2) <;> cases allC k (4 * N + 3) <;> intro h <;> first | exact ⟨rfl, rfl, rfl⟩ | cases h
theorem ch111 : allC 5 21 = true := by decide +kernel
theorem ch112 : allC 5 22 = true := by decide +kernel
theorem ch113 : allC 5 23 = true := by decide +kernel
theorem ch121 : allC 5 25 = true := by decide +kernel
theorem ch122 : allC 5 26 = true := by decide +kernel
theorem ch123 : allC 5 27 = true := by decide +kernel
theorem ch131 : allC 5 29 = true := by decide +kernel
theorem ch132 : allC 5 30 = true := by decide +kernel
theorem ch133 : allC 5 31 = true := by decide +kernel
theorem ch211 : allC 5 37 = true := by decide +kernel
theorem ch212 : allC 5 38 = true := by decide +kernel
theorem ch213 : allC 5 39 = true := by decide +kernel
theorem ch221 : allC 5 41 = true := by decide +kernel
theorem ch222 : allC 5 42 = true := by decide +kernel
theorem ch223 : allC 5 43 = true := by decide +kernel
theorem ch231 : allC 5 45 = true := by decide +kernel
theorem ch232 : allC 5 46 = true := by decide +kernel
theorem ch233 : allC 5 47 = true := by decide +kernel
theorem ch311 : allC 5 53 = true := by decide +kernel
theorem ch312 : allC 5 54 = true := by decide +kernel
theorem ch313 : allC 5 55 = true := by decide +kernel
theorem ch321 : allC 5 57 = true := by decide +kernel
theorem ch322 : allC 5 58 = true := by decide +kernel
theorem ch323 : allC 5 59 = true := by decide +kernel
theorem ch331 : allC 5 61 = true := by decide +kernel
theorem ch332 : allC 5 62 = true := by decide +kernel
theorem ch333 : allC 5 63 = true := by decide +kernel
theorem all8 : allC 8 0 = true := allC_of (allC_of (allC_of ch111 ch112 ch113) (allC_of ch121 ch122 ch123) (allC_of ch131 ch132 ch133)) (allC_of (allC_of ch211 ch212 ch213) (allC_of ch221 ch222 ch223) (allC_of ch231 ch232 ch233)) (allC_of (allC_of ch311 ch312 ch313) (allC_of ch321 ch322 ch323) (allC_of ch331 ch332 ch333))
end Mine
end
-- PlnV
section
namespace Mine
/-- a word's number, the first digit the greatest -/
def vB (B : Nat) : List Nat → Nat
  | [] => 0
  | d :: r => d * B ^ r.length + vB B r
theorem vB_lt {B : Nat} : ∀ {l : List Nat}, (∀ d ∈ l, d < B) → vB B l < B ^ l.length
  | [], _ => by simp [vB]
  | d :: r, h => by
    have h1 := vB_lt (l := r) fun x hx => h x (.tail _ hx)
    have h2 := h d (.head _)
    rw [vB, List.length_cons, Nat.pow_succ, Nat.mul_comm (B ^ r.length) B]
    have h3 : (d + 1) * B ^ r.length ≤ B * B ^ r.length := Nat.mul_le_mul_right _ h2
    rw [Nat.add_mul, Nat.one_mul] at h3
    omega
theorem vB_append (B : Nat) : ∀ l r : List Nat, vB B (l ++ r) = vB B l * B ^ r.length + vB B r
  | [], r => by simp [vB]
  | d :: l, r => by
    rw [List.cons_append, vB, vB, vB_append B l r, List.length_append, Nat.pow_add, Nat.add_mul, Nat.mul_assoc]
    omega
theorem vB_zeros (B : Nat) : ∀ n, vB B (List.replicate n 0) = 0
  | 0 => rfl
  | n + 1 => by rw [List.replicate_succ, vB, vB_zeros B n]; omega
/-- the order of two words -/
def lexLt : List Nat → List Nat → Bool
  | a :: r, b :: q => if a < b then true else if b < a then false else lexLt r q
  | _, _ => false
theorem vB_lex {B : Nat} : ∀ {l r : List Nat}, l.length = r.length → (∀ d ∈ l, d < B) → (∀ d ∈ r, d < B) → (vB B l < vB B r ↔ lexLt l r = true)
  | [], [], _, _, _ => by simp [vB, lexLt]
  | a :: l, b :: r, e, h1, h2 => by
    have e' : l.length = r.length := by simpa using e
    have l1 := vB_lt (l := l) fun x hx => h1 x (.tail _ hx)
    have l2 := vB_lt (l := r) fun x hx => h2 x (.tail _ hx)
    have ih := vB_lex (B := B) e' (fun x hx => h1 x (.tail _ hx)) fun x hx => h2 x (.tail _ hx)
    rw [vB, vB, lexLt, e']
    rw [e'] at l1
    by_cases hab : a < b
    · have h3 : (a + 1) * B ^ r.length ≤ b * B ^ r.length := Nat.mul_le_mul_right _ hab
      rw [Nat.add_mul, Nat.one_mul] at h3
      simp only [hab, if_true, iff_true]
      omega
    · by_cases hba : b < a
      · have h3 : (b + 1) * B ^ r.length ≤ a * B ^ r.length := Nat.mul_le_mul_right _ hba
        rw [Nat.add_mul, Nat.one_mul] at h3
        simp only [hab, hba, if_true, if_false, Bool.false_eq_true, iff_false]
        omega
      · have : a = b := by omega
        subst this
        simp only [hab, if_false]
        rw [← ih]
        omega
theorem vB_inj {B : Nat} : ∀ {l r : List Nat}, l.length = r.length → (∀ d ∈ l, d < B) → (∀ d ∈ r, d < B) → vB B l = vB B r → l = r
  | [], [], _, _, _, _ => rfl
  | a :: l, b :: r, e, h1, h2, q => by
    have e' : l.length = r.length := by simpa using e
    have l1 := vB_lt (l := l) fun x hx => h1 x (.tail _ hx)
    have l2 := vB_lt (l := r) fun x hx => h2 x (.tail _ hx)
    rw [vB, vB, e'] at q
    rw [e'] at l1
    have hp : 0 < B ^ r.length := Nat.lt_of_le_of_lt (Nat.zero_le _) l2
    have hab : a = b := by
      have d1 : (a * B ^ r.length + vB B l) / B ^ r.length = a := by rw [Nat.mul_comm, Nat.mul_add_div hp, Nat.div_eq_of_lt l1]; rfl
      have d2 : (b * B ^ r.length + vB B r) / B ^ r.length = b := by rw [Nat.mul_comm, Nat.mul_add_div hp, Nat.div_eq_of_lt l2]; rfl
      rw [← d1, q, d2]
    subst hab
    rw [vB_inj e' (fun x hx => h1 x (.tail _ hx)) (fun x hx => h2 x (.tail _ hx)) (by omega)]
theorem vB_div {B : Nat} {l : List Nat} (h : ∀ d ∈ l, d < B) (hB : 0 < B) {k : Nat} (hk : k ≤ l.length) : vB B l / B ^ k = vB B (l.take (l.length - k)) ∧ vB B l % B ^ k = vB B (l.drop (l.length - k)) := by
  have e : vB B l = vB B (l.take (l.length - k)) * B ^ k + vB B (l.drop (l.length - k)) := by
    have := vB_append B (l.take (l.length - k)) (l.drop (l.length - k))
    rw [List.take_append_drop, List.length_drop, show l.length - (l.length - k) = k by omega] at this
    exact this
  have lt : vB B (l.drop (l.length - k)) < B ^ k := by
    have := vB_lt (B := B) (l := l.drop (l.length - k)) fun d hd => h d (List.mem_of_mem_drop hd)
    rw [List.length_drop, show l.length - (l.length - k) = k by omega] at this
    exact this
  rw [e]
  exact ⟨by rw [Nat.mul_comm, Nat.mul_add_div (Nat.pow_pos hB), Nat.div_eq_of_lt lt]; rfl, by rw [Nat.mul_comm, Nat.mul_add_mod, Nat.mod_eq_of_lt lt]⟩
/-- a piece of a word -/
theorem vB_piece {l : List Nat} (h : ∀ d ∈ l, d < 4) (hl : l.length = 8) {a m : Nat} (ha : a ≤ m) (hm : m ≤ 8) : vB 4 l / 4 ^ (8 - m) % 4 ^ (m - a) = vB 4 ((l.take m).drop a) := by
  have h1 := (vB_div h (by decide) (k := 8 - m) (by rw [hl]; exact Nat.sub_le _ _)).1
  rw [h1, hl, Nat.sub_sub_self hm]
  have e : (l.take m).length = m := by rw [List.length_take, hl, Nat.min_eq_left hm]
  have h2 := (vB_div (B := 4) (l := l.take m) (fun d hd => h d (List.mem_of_mem_take hd)) (by decide) (k := m - a) (by rw [e]; exact Nat.sub_le _ _)).2
  rw [h2, e, Nat.sub_sub_self ha]
theorem allC_word : ∀ {k N : Nat}, allC k N = true → ∀ {l : List Nat}, l.length = k → (∀ d ∈ l, 1 ≤ d ∧ d ≤ 3) → goodC (N * 4 ^ k + vB 4 l) = true
  | 0, N, h, [], _, _ => by
    have e : N * 4 ^ 0 + vB 4 [] = N := by simp [vB]
    rw [e]
    exact h
  | k + 1, N, h, d :: r, e, hd => by
    obtain ⟨h1, h2, h3⟩ := allC_get h
    have er : r.length = k := by simpa using e
    have hr : ∀ x ∈ r, 1 ≤ x ∧ x ≤ 3 := fun x hx => hd x (.tail _ hx)
    have e2 : N * 4 ^ (k + 1) + vB 4 (d :: r) = (4 * N + d) * 4 ^ k + vB 4 r := by
      rw [vB, er, Nat.pow_succ, Nat.add_mul, Nat.mul_comm 4 N, Nat.mul_assoc, Nat.mul_comm 4 (4 ^ k)]; omega
    rw [e2]
    have := hd d (.head _)
    rcases (by omega : d = 1 ∨ d = 2 ∨ d = 3) with rfl | rfl | rfl
    · exact allC_word h1 er hr
    · exact allC_word h2 er hr
    · exact allC_word h3 er hr
theorem good_word {l : List Nat} (hl : l.length = 8) (hd : ∀ d ∈ l, 1 ≤ d ∧ d ≤ 3) : goodC (vB 4 l) = true := by
  have := allC_word all8 hl hd
  rwa [Nat.zero_mul, Nat.zero_add] at this
theorem ar_uz {n z : Nat} (hz : z ≤ 8) : min n (8 - z) + z ≤ 8 := by omega
theorem ar_vu {n z : Nat} (hn : n ≤ 8) : n - z ≤ min n (8 - z) := by omega
theorem ar_min (n z : Nat) : n - (n - (8 - z)) = min n (8 - z) := by omega
theorem fitC_iff {l : List Nat} (h : ∀ d ∈ l, d < 4) (hl : l.length = 8) {n z : Nat} (hn : n ≤ 8) (hz : z ≤ 8) :
    fitC (vB 4 l) n z = true ↔ (l.take (min n (8 - z))).drop (n - z) = (l.take (min n (8 - z) + z)).drop (n - z + z) := by
  have hu2 := ar_uz (n := n) hz
  have hvu := ar_vu (z := z) hn
  have e : fitC (vB 4 l) n z = Nat.beq (vB 4 l / 4 ^ (8 - min n (8 - z)) % 4 ^ (min n (8 - z) - (n - z))) (vB 4 l / 4 ^ (8 - min n (8 - z) - z) % 4 ^ (min n (8 - z) - (n - z))) := by
    unfold fitC
    dsimp only
    rw [show Nat.sub n (Nat.sub n (Nat.sub 8 z)) = min n (8 - z) from ar_min n z]
    show Nat.beq ((vB 4 l >>> (2 * (8 - min n (8 - z)))) % _) ((vB 4 l >>> (2 * (8 - min n (8 - z) - z))) % _) = _
    rw [Nat.shiftRight_eq_div_pow, Nat.shiftRight_eq_div_pow, Nat.pow_mul, Nat.pow_mul]
    rfl
  rw [e]
  clear e
  generalize min n (8 - z) = u at *
  generalize n - z = v at *
  have hu : u ≤ 8 := Nat.le_trans (Nat.le_add_right _ _) hu2
  have p1 := vB_piece h hl (a := v) (m := u) hvu hu
  have p2 := vB_piece h hl (a := v + z) (m := u + z) (Nat.add_le_add_right hvu z) hu2
  rw [Nat.sub_add_eq, Nat.add_sub_add_right] at p2
  rw [p1, p2, Nat.beq_eq]
  refine ⟨fun q => vB_inj ?_ ?_ ?_ q, fun q => by rw [q]⟩
  · rw [List.length_drop, List.length_drop, List.length_take, List.length_take, hl, Nat.min_eq_left hu, Nat.min_eq_left hu2, Nat.add_sub_add_right]
  · intro d hd; exact h d (List.mem_of_mem_take (List.mem_of_mem_drop hd))
  · intro d hd; exact h d (List.mem_of_mem_take (List.mem_of_mem_drop hd))
theorem lszC_succ (N n k z : Nat) : lszC N n (k + 1) z = cond (fitC N n z) z (lszC N n k (z + 1)) := rfl
theorem perC_succ (N f k : Nat) : perC N (f + 1) k = cond (Nat.beq (N / 4 ^ k) (N % 4 ^ (8 - k))) k (perC N f (k + 1)) := rfl
theorem topC_succ (N k i m b : Nat) : topC N (k + 1) i m b = cond (Nat.ble (N * 4 ^ i % 65536) m) (topC N k (i + 1) m b) (topC N k (i + 1) (N * 4 ^ i % 65536) i) := rfl
/-- the first greatest ending: among the first j + k, if b is the first greatest among the first j -/
theorem topC_first (N : Nat) : ∀ (k i b : Nat), b < i → (∀ j, j < i → N * 4 ^ j % 65536 ≤ N * 4 ^ b % 65536) → (∀ j, j < b → N * 4 ^ j % 65536 < N * 4 ^ b % 65536) →
    topC N k i (N * 4 ^ b % 65536) b < i + k ∧ (∀ j, j < i + k → N * 4 ^ j % 65536 ≤ N * 4 ^ (topC N k i (N * 4 ^ b % 65536) b) % 65536) ∧ (∀ j, j < topC N k i (N * 4 ^ b % 65536) b → N * 4 ^ j % 65536 < N * 4 ^ (topC N k i (N * 4 ^ b % 65536) b) % 65536)
  | 0, i, b, h, h1, h2 => ⟨h, h1, h2⟩
  | k + 1, i, b, h, h1, h2 => by
    rw [topC_succ]
    cases e : Nat.ble (N * 4 ^ i % 65536) (N * 4 ^ b % 65536) with
    | true =>
      have le := Nat.le_of_ble_eq_true e
      have r := topC_first N k (i + 1) b (by omega) (fun j hj => by
        rcases Nat.lt_succ_iff_lt_or_eq.mp hj with h' | rfl
        · exact h1 j h'
        · exact le) h2
      rw [show i + 1 + k = i + (k + 1) by omega] at r
      exact r
    | false =>
      have lt : N * 4 ^ b % 65536 < N * 4 ^ i % 65536 := by
        rcases Nat.lt_or_ge (N * 4 ^ b % 65536) (N * 4 ^ i % 65536) with h' | h'
        · exact h'
        · rw [Nat.ble_eq_true_of_le h'] at e; cases e
      have r := topC_first N k (i + 1) i (by omega) (fun j hj => by
        rcases Nat.lt_succ_iff_lt_or_eq.mp hj with h' | rfl
        · exact Nat.le_of_lt (Nat.lt_of_le_of_lt (h1 j h') lt)
        · exact Nat.le_refl _) (fun j hj => Nat.lt_of_le_of_lt (h1 j hj) lt)
      rw [show i + 1 + k = i + (k + 1) by omega] at r
      exact r
theorem latC_spec (N : Nat) : latC N < 9 ∧ (∀ j, j < 9 → N * 4 ^ j % 65536 ≤ N * 4 ^ (latC N) % 65536) ∧ (∀ j, j < latC N → N * 4 ^ j % 65536 < N * 4 ^ (latC N) % 65536) := by
  have e : latC N = topC N 8 1 (N * 4 ^ 0 % 65536) 0 := by
    unfold latC
    rw [topC_succ]
    cases e : Nat.ble (N * 4 ^ 0 % 65536) 0 with
    | true =>
      have := Nat.le_of_ble_eq_true e
      have z : N * 4 ^ 0 % 65536 = 0 := by omega
      rw [z]; rfl
    | false => rfl
  rw [e]
  exact topC_first N 8 1 0 (by omega) (fun j hj => by rw [show j = 0 by omega]; exact Nat.le_refl _) (fun j hj => absurd hj (Nat.not_lt_zero _))
/-- the place is told by what it is -/
theorem latC_unique {N j : Nat} (h0 : j < 9) (h1 : ∀ i, i < 9 → N * 4 ^ i % 65536 ≤ N * 4 ^ j % 65536) (h2 : ∀ i, i < j → N * 4 ^ i % 65536 < N * 4 ^ j % 65536) : latC N = j := by
  obtain ⟨a, b, c⟩ := latC_spec N
  rcases Nat.lt_trichotomy (latC N) j with h | h | h
  · have x := h2 _ h; have y := b _ h0; omega
  · exact h
  · have x := c _ h; have y := h1 _ a; omega
theorem allB_get {f : Nat → Bool} : ∀ {k : Nat}, allB k f = true → ∀ i, i < k → f i = true
  | 0, _, i, hi => absurd hi (Nat.not_lt_zero _)
  | k + 1, h, i, hi => by
    have h' : cond (f k) (allB k f) false = true := h
    cases e : f k with
    | false => rw [e] at h'; cases h'
    | true =>
      rw [e] at h'
      rcases Nat.lt_succ_iff_lt_or_eq.mp hi with h2 | rfl
      · exact allB_get h' i h2
      · exact e
theorem anyB_get {f : Nat → Bool} : ∀ {k : Nat}, anyB k f = true → ∃ i, i < k ∧ f i = true
  | 0, h => nomatch h
  | k + 1, h => by
    have h' : cond (f k) true (anyB k f) = true := h
    cases e : f k with
    | true => exact ⟨k, Nat.lt_succ_self _, e⟩
    | false =>
      rw [e] at h'
      obtain ⟨i, hi, q⟩ := anyB_get h'
      exact ⟨i, Nat.lt_succ_of_lt hi, q⟩
theorem goodP_get {p a : Nat} {s : Nat → Nat} (h : goodP p a s = true) : a < p ∧ s a = p ∧ (∀ n, n < 8 → 1 ≤ s n) ∧ ∀ k, k < 8 - winC p → ∃ j, j < winC p ∧ s (k + 1 + j) = p := by
  unfold goodP at h
  cases e1 : Nat.ble (Nat.succ a) p with
  | false => rw [e1] at h; cases h
  | true =>
    rw [e1] at h
    cases e2 : Nat.beq (s a) p with
    | false => rw [e2] at h; cases h
    | true =>
      rw [e2] at h
      cases e3 : allB 8 (fun n => Nat.ble 1 (s n)) with
      | false => rw [e3] at h; cases h
      | true =>
        rw [e3] at h
        refine ⟨Nat.le_of_ble_eq_true e1, Nat.eq_of_beq_eq_true e2, fun n hn => Nat.le_of_ble_eq_true (allB_get e3 n hn), fun k hk => ?_⟩
        obtain ⟨j, hj, q⟩ := anyB_get (allB_get h k hk)
        exact ⟨j, hj, Nat.eq_of_beq_eq_true q⟩
theorem goodC_get {N : Nat} (h : goodC N = true) : max (latC N) (latC (87380 - N)) < perC N 7 1 ∧ lszC N (max (latC N) (latC (87380 - N))) (perC N 7 1) 1 = perC N 7 1 ∧ (∀ n, n < 8 → 1 ≤ lszC N n (perC N 7 1) 1) ∧
    ∀ k, k < 8 - winC (perC N 7 1) → ∃ j, j < winC (perC N 7 1) ∧ lszC N (k + 1 + j) (perC N 7 1) 1 = perC N 7 1 := by
  have e : (cond (Nat.ble (latC N) (latC (Nat.sub 87380 N))) (latC (Nat.sub 87380 N)) (latC N)) = max (latC N) (latC (87380 - N)) := by
    show cond (Nat.ble (latC N) (latC (87380 - N))) (latC (87380 - N)) (latC N) = _
    cases q : Nat.ble (latC N) (latC (87380 - N)) with
    | true => have := Nat.le_of_ble_eq_true q; simp only [cond_true]; omega
    | false =>
      rcases Nat.lt_or_ge (latC (87380 - N)) (latC N) with h' | h'
      · simp only [cond_false]; omega
      · rw [Nat.ble_eq_true_of_le h'] at q; cases q
  have h' : goodP (perC N 7 1) (cond (Nat.ble (latC N) (latC (Nat.sub 87380 N))) (latC (Nat.sub 87380 N)) (latC N)) (fun n => lszC N n (perC N 7 1) 1) = true := h
  rw [e] at h'
  exact goodP_get h'
end Mine
end
-- PlnD
section
open PySem PySem.W PyProof.Rows PySem.Calls PySem.Spec
namespace Mine
def dsOf (W : Str) : List Nat := W.cps.toList.map fun c => c - 96
theorem unD_rev (B : Nat) : ∀ l : List Nat, unD (B : Int) (l.map fun (d : Nat) => (d : Int)).reverse = (vB B l : Int)
  | [] => rfl
  | d :: r => by
    rw [List.map_cons, List.reverse_cons, unD_append, unD_rev B r, List.length_reverse, List.length_map, vB, unD, unD, Int.mul_zero, Int.add_zero, Int.natCast_add, Int.natCast_mul, Int.natCast_pow, Int.mul_comm]
    omega
theorem num_eq {W : Str} (wd : Nat) (hc : ∀ c ∈ W.cps.toList, 97 ≤ c ∧ c ≤ 99) : numOf wd W = (vB (2 ^ wd) (dsOf W) : Int) := by
  unfold numOf valsOf dsOf
  rw [← unD_rev, List.map_map]
  have : (W.cps.toList.map fun (c : Nat) => (c : Int) - 96) = W.cps.toList.map ((fun (d : Nat) => (d : Int)) ∘ fun c => c - 96) := List.map_congr_left fun c h => by
    have := hc c h
    show (c : Int) - 96 = ((c - 96 : Nat) : Int)
    omega
  rw [this, Int.natCast_pow]
  rfl
theorem num2_eq {W : Str} (wd : Nat) (hc : ∀ c ∈ W.cps.toList, 97 ≤ c ∧ c ≤ 99) : numOf2 wd W = (vB (2 ^ wd) ((dsOf W).map fun d => 4 - d) : Int) := by
  unfold numOf2 valsOf dsOf
  rw [← unD_rev, List.map_map, List.map_map, List.map_map]
  have : (W.cps.toList.map ((fun (v : Int) => 4 - v) ∘ fun (c : Nat) => (c : Int) - 96)) = W.cps.toList.map ((fun (d : Nat) => (d : Int)) ∘ (fun d => 4 - d) ∘ fun c => c - 96) := List.map_congr_left fun c h => by
    have := hc c h
    show 4 - ((c : Int) - 96) = ((4 - (c - 96) : Nat) : Int)
    omega
  rw [this, Int.natCast_pow]
  rfl
theorem vB_comp : ∀ {l : List Nat}, (∀ d ∈ l, d ≤ 4) → vB 4 (l.map fun d => 4 - d) + vB 4 l = vB 4 (List.replicate l.length 4)
  | [], _ => rfl
  | d :: r, h => by
    have ih := vB_comp (l := r) fun x hx => h x (.tail _ hx)
    have hd := h d (.head _)
    rw [List.map_cons, vB, vB, List.length_map, List.length_cons, List.replicate_succ, vB, List.length_replicate, ← ih]
    have : (4 - d) * 4 ^ r.length + d * 4 ^ r.length = 4 * 4 ^ r.length := by rw [← Nat.add_mul, show 4 - d + d = 4 by omega]
    omega
theorem hv_nat (n wd i : Nat) : hv (n : Int) wd i = (((n * (2 ^ wd) ^ i / (2 ^ wd) ^ 8 : Nat) : Int), ((n * (2 ^ wd) ^ i % (2 ^ wd) ^ 8 : Nat) : Int)) := by
  have p : (0 : Int) ≤ 2 ^ (wd * 8) := Int.le_of_lt (Int.pow_pos (by decide))
  unfold hv
  rw [Int.fdiv_eq_ediv_of_nonneg _ p, Int.fmod_eq_emod_of_nonneg _ p]
  rw [← Nat.pow_mul, ← Nat.pow_mul]
  rw [Int.natCast_ediv, Int.natCast_emod, Int.natCast_mul, Int.natCast_pow, Int.natCast_pow]
  rfl
section
variable {l : List Nat} {wd : Nat}
theorem cut_top (B n k : Nat) (hB : 0 < B) (hk : k ≤ 8) : n * B ^ (8 - k) / B ^ 8 = n / B ^ k := by
  rw [show B ^ 8 = B ^ k * B ^ (8 - k) by rw [← Nat.pow_add]; congr 1; omega]
  exact Nat.mul_div_mul_right _ _ (Nat.pow_pos hB)
theorem cut_low (B n k : Nat) (hk : k ≤ 8) : n * B ^ k % B ^ 8 = n % B ^ (8 - k) * B ^ k := by
  rw [show B ^ 8 = B ^ (8 - k) * B ^ k by rw [← Nat.pow_add]; congr 1; omega]
  exact Nat.mul_mod_mul_right _ _ _
theorem per_iff (B : Nat) (hB : 4 ≤ B) (hl : l.length = 8) (hd : ∀ d ∈ l, d < 4) {k : Nat} (hk : k ≤ 8) : vB B l / B ^ k = vB B l % B ^ (8 - k) ↔ l.take (8 - k) = l.drop k := by
  have hd' : ∀ d ∈ l, d < B := fun d h => Nat.lt_of_lt_of_le (hd d h) hB
  rw [(vB_div hd' (by omega) (k := k) (by omega)).1, (vB_div hd' (by omega) (k := 8 - k) (by omega)).2, hl, show 8 - (8 - k) = k by omega]
  refine ⟨vB_inj ?_ ?_ ?_, fun q => by rw [q]⟩
  · rw [List.length_take, List.length_drop]; omega
  · intro d h; exact hd' d (List.mem_of_mem_take h)
  · intro d h; exact hd' d (List.mem_of_mem_drop h)
theorem perG_eq (hw : 2 ≤ wd) (hl : l.length = 8) (hd : ∀ d ∈ l, d < 4) : ∀ {f k : Nat}, k + f ≤ 8 → perG (vB (2 ^ wd) l : Int) wd f k = perC (vB 4 l) f k
  | 0, _, _ => rfl
  | f + 1, k, h => by
    have hB : 4 ≤ 2 ^ wd := Nat.pow_le_pow_right (n := 2) (by decide) hw
    rw [perG, perC_succ, perG_eq hw hl hd (f := f) (k := k + 1) (by omega), hv_nat, hv_nat]
    dsimp only
    rw [cut_top _ _ _ (by omega) (by omega), cut_low _ _ _ (by omega)]
    have e : (((vB (2 ^ wd) l / (2 ^ wd) ^ k : Nat) : Int) * 2 ^ (wd * k) ≠ ((vB (2 ^ wd) l % (2 ^ wd) ^ (8 - k) * (2 ^ wd) ^ k : Nat) : Int)) ↔ ¬ (l.take (8 - k) = l.drop k) := by
      rw [← per_iff (2 ^ wd) hB hl hd (by omega)]
      have q : ((2 : Int) ^ (wd * k)) = (((2 ^ wd) ^ k : Nat) : Int) := by rw [← Nat.pow_mul, Int.natCast_pow]; rfl
      rw [q, ← Int.natCast_mul]
      have p : 0 < (2 ^ wd) ^ k := Nat.pow_pos (by omega)
      exact not_congr ⟨fun x => Nat.eq_of_mul_eq_mul_right p (Int.ofNat.inj x), fun x => by rw [x]⟩
    have e4 := per_iff 4 (Nat.le_refl _) hl hd (k := k) (by omega)
    cases q : Nat.beq (vB 4 l / 4 ^ k) (vB 4 l % 4 ^ (8 - k)) with
    | true => rw [if_neg (fun x => e.mp x (e4.mp (Nat.eq_of_beq_eq_true q)))]; rfl
    | false => rw [if_pos (e.mpr fun x => by rw [e4.mpr x] at q; simp at q)]; rfl
theorem end_word (B : Nat) (hB : 4 ≤ B) (hl : l.length = 8) (hd : ∀ d ∈ l, d < 4) {i : Nat} (hi : i ≤ 8) : vB B l * B ^ i % B ^ 8 = vB B (l.drop i ++ List.replicate i 0) := by
  have hd' : ∀ d ∈ l, d < B := fun d h => Nat.lt_of_lt_of_le (hd d h) hB
  rw [cut_low _ _ _ hi, (vB_div hd' (by omega) (k := 8 - i) (by omega)).2, hl, show 8 - (8 - i) = i by omega, vB_append, vB_zeros, List.length_replicate]
  rfl
theorem end_lt (B : Nat) (hB : 4 ≤ B) (hl : l.length = 8) (hd : ∀ d ∈ l, d < 4) {i j : Nat} (hi : i ≤ 8) (hj : j ≤ 8) :
    vB B l * B ^ i % B ^ 8 < vB B l * B ^ j % B ^ 8 ↔ vB 4 l * 4 ^ i % 65536 < vB 4 l * 4 ^ j % 65536 := by
  have g : ∀ (C : Nat), 4 ≤ C → ∀ k, ∀ d ∈ l.drop k ++ List.replicate k 0, d < C := fun C hC k d h => by
    rcases List.mem_append.mp h with h | h
    · exact Nat.lt_of_lt_of_le (hd d (List.mem_of_mem_drop h)) hC
    · rw [(List.mem_replicate.mp h).2]; omega
  have e : (l.drop i ++ List.replicate i 0).length = (l.drop j ++ List.replicate j 0).length := by
    rw [List.length_append, List.length_append, List.length_drop, List.length_drop, List.length_replicate, List.length_replicate]; omega
  rw [end_word B hB hl hd hi, end_word B hB hl hd hj, show 65536 = 4 ^ 8 from rfl, end_word 4 (Nat.le_refl _) hl hd hi, end_word 4 (Nat.le_refl _) hl hd hj,
    vB_lex e (g B hB i) (g B hB j), vB_lex e (g 4 (Nat.le_refl _) i) (g 4 (Nat.le_refl _) j)]
/-- the first greatest ending is the same whatever the width -/
theorem late_eq (hw : 2 ≤ wd) (hl : l.length = 8) (hd : ∀ d ∈ l, d < 4) {M : Int} (hM : M ∈ (List.range 9).map fun i => (hv (vB (2 ^ wd) l : Int) wd i).2) (hx : ∀ a ∈ (List.range 9).map fun i => (hv (vB (2 ^ wd) l : Int) wd i).2, a ≤ M) :
    ((List.range 9).map fun i => (hv (vB (2 ^ wd) l : Int) wd i).2).idxOf M = latC (vB 4 l) := by
  have hB : 4 ≤ 2 ^ wd := Nat.pow_le_pow_right (n := 2) (by decide) hw
  generalize hL : ((List.range 9).map fun i => (hv (vB (2 ^ wd) l : Int) wd i).2) = L at hM hx ⊢
  have hlen : L.length = 9 := by rw [← hL]; simp
  have at_ : ∀ i (hi : i < L.length), L[i] = ((vB (2 ^ wd) l * (2 ^ wd) ^ i % (2 ^ wd) ^ 8 : Nat) : Int) := by
    intro i hi
    subst hL
    rw [List.getElem_map, List.getElem_range, hv_nat]
  have hj := List.idxOf_lt_length_iff.mpr hM
  have hjM := List.getElem_idxOf hj
  rw [at_] at hjM
  refine (latC_unique (by omega) (fun i hi => ?_) fun i hi => ?_).symm
  · refine Nat.le_of_not_lt fun h => ?_
    have h' := (end_lt (2 ^ wd) hB hl hd (by omega) (by omega)).mpr h
    have a := hx _ (List.getElem_mem (show i < L.length by omega))
    rw [at_] at a
    omega
  · refine (end_lt (2 ^ wd) hB hl hd (by omega) (by omega)).mp ?_
    have a := hx _ (List.getElem_mem (show i < L.length by omega))
    have ne : L[i]'(by omega) ≠ M := by
      intro q
      have := List.not_of_lt_findIdx (p := (· == M)) (xs := L) (i := i) hi
      simp [q] at this
    rw [at_] at a ne
    omega
end
theorem slice_to_cps {x : Str} {z : Nat} (h : z ≤ x.length) : (Txt.slice x none (some (z : Int))).cps.toList = x.cps.toList.take z := by
  rw [eq_of_beq (slice_closes_toL (by omega) (by omega))]
  simp
theorem slice_from_cps {x : Str} {i : Int} (h0 : 0 ≤ i) (h : i ≤ x.length) : (Txt.slice x (some i) none).cps.toList = x.cps.toList.drop i.toNat := by
  rw [eq_of_beq (slice_closes_fromL h0 h rfl)]
  show (List.take _ (List.drop _ _)).toArray.toList = _
  rw [List.take_of_length_le]
  rw [List.length_drop, ← str_len]
  omega
theorem slice_neg_cps {x : Str} {z : Nat} (h0 : 1 ≤ z) : (Txt.slice x (some (-(z : Int))) none).cps.toList = x.cps.toList.drop (x.length - z) := by
  have e : Txt.slice x (some (-(z : Int))) none = Txt.slice x (some ((x.length - z : Nat) : Int)) none := by
    have q : Builtin.Str.strSliceIndices (some (-(z : Int))) none 1 x.length = Builtin.Str.strSliceIndices (some ((x.length - z : Nat) : Int)) none 1 x.length := by
      have a : (-(z : Int)) < 0 := by omega
      have b : ¬ (((x.length - z : Nat) : Int) < 0) := by omega
      have c : max (0 : Int) (min (-(z : Int) + (x.length : Int)) (x.length : Int)) = max (0 : Int) (min ((x.length - z : Nat) : Int) (x.length : Int)) := by omega
      simp only [Builtin.Str.strSliceIndices, a, b, if_true, if_false, show ((1 : Int) > 0) = True from by simp, c]
    unfold Txt.slice
    rw [q]
  rw [e, slice_from_cps (by omega) (by omega), Int.toNat_natCast]
theorem ends_iff {x y : Str} : Txt.endswith x y = true ↔ y.cps.toList.length ≤ x.cps.toList.length ∧ x.cps.toList.drop (x.cps.toList.length - y.cps.toList.length) = y.cps.toList := by
  unfold Txt.endswith
  rw [StrLaws.subAt_eq, str_len, str_len, Bool.and_eq_true, beq_iff_eq, decide_eq_true_eq, Nat.zero_add]
  refine and_congr_right fun h => ?_
  rw [List.take_of_length_le (by rw [List.length_drop]; omega)]
theorem starts_iff {x y : Str} : Txt.startswith x y = true ↔ y.cps.toList.length ≤ x.cps.toList.length ∧ x.cps.toList.take y.cps.toList.length = y.cps.toList := by
  unfold Txt.startswith
  rw [StrLaws.subAt_eq, str_len, str_len, Bool.and_eq_true, beq_iff_eq, decide_eq_true_eq, Nat.zero_add, List.drop_zero]
theorem ar1 (n z : Nat) : n + (z - (n - (n - z))) = n - z + z := by omega
theorem ar2 (z n : Nat) : (if (z : Int) - (n : Int) > 0 then (z : Int) - (n : Int) else 0) = ((z - n : Nat) : Int) := by split <;> omega
theorem ar3 {n z : Nat} (hc : z ≤ 8 - n) (hn : n ≤ 8) : n + z ≤ 8 := by omega
theorem ar4 (n z : Nat) : n - (n - z) ≤ z := by omega
theorem ar5 {n z : Nat} (hc : ¬ z ≤ 8 - n) (hz : z ≤ 8) : min n (8 - z) = 8 - z := by omega
theorem ar6 (n z : Nat) : n + (z - n) = n - z + z := by omega
theorem ar7 {n z : Nat} (hn : n ≤ 8) (hc : ¬ z ≤ 8 - n) (hz : z ≤ 8) : n - z + (8 - (n - z + z)) = 8 - z ∧ 8 - z ≤ n ∧ 8 - (n - z + z) ≤ n - (n - z) := by omega
theorem ar8 {n z : Nat} (hn : n ≤ 8) (hz : z ≤ 8) : z - n ≤ 8 - n := by omega
theorem fitP_iff {l : List Nat} (hl : l.length = 8) {n z : Nat} (hn : n ≤ 8) (h1 : 1 ≤ z) (hz : z ≤ 8) :
    fitP (sub (l.take n)) (sub (l.drop n)) (z : Int) = true ↔ (l.take (min n (8 - z))).drop (n - z) = (l.take (min n (8 - z) + z)).drop (n - z + z) := by
  have ha : (sub (l.take n)).length = n := by rw [sub_len, List.length_take, hl, Nat.min_eq_left hn]
  have hb : (sub (l.drop n)).length = 8 - n := by rw [sub_len, List.length_drop, hl]
  unfold fitP
  by_cases hc : z ≤ 8 - n
  · have hnz := ar3 hc hn
    rw [if_pos (by rw [hb]; exact Int.ofNat_le.mpr hc), ends_iff, slice_neg_cps h1, slice_to_cps (by rw [hb]; exact hc), sub_cps, sub_cps, ha]
    rw [Nat.min_eq_left (Nat.le_sub_of_add_le hnz)]
    rw [List.take_drop, List.drop_drop, List.length_drop, List.length_take, List.length_drop, List.length_take, hl, Nat.min_eq_left hnz, Nat.min_eq_left hn, Nat.add_sub_cancel_left, ar1 n z]
    exact ⟨fun h => h.2.symm, fun h => ⟨ar4 n z, h.symm⟩⟩
  · obtain ⟨q1, q2, q3⟩ := ar7 hn hc hz
    rw [if_neg (by rw [hb]; exact fun h => hc (Int.ofNat_le.mp h)), starts_iff, slice_neg_cps h1, ha]
    rw [ar2 z n, slice_from_cps (Int.natCast_nonneg _) (by rw [hb]; exact Int.ofNat_le.mpr (ar8 hn hz)), Int.toNat_natCast, sub_cps, sub_cps]
    rw [ar5 hc hz]
    rw [List.drop_drop, List.length_drop, List.length_drop, List.length_take, hl, List.take_drop, List.take_take, ar6 n z, q1, Nat.min_eq_left q2, Nat.min_eq_left hn, Nat.sub_add_cancel hz, show List.take 8 l = l from List.take_of_length_le (Nat.le_of_eq hl)]
    exact ⟨fun h => h.2, fun h => ⟨q3, h⟩⟩
theorem ds_len {W : Str} (hW : W.length = 8) : (dsOf W).length = 8 := by
  unfold dsOf
  rw [List.length_map, ← str_len, hW]
theorem ds_mem {W : Str} (hc : ∀ c ∈ W.cps.toList, 97 ≤ c ∧ c ≤ 99) : ∀ d ∈ dsOf W, 1 ≤ d ∧ d ≤ 3 := by
  intro d hd
  obtain ⟨c, h, rfl⟩ := List.mem_map.mp hd
  have := hc c h
  omega
theorem map96_inj {x y : List Nat} (hx : ∀ c ∈ x, 97 ≤ c) (hy : ∀ c ∈ y, 97 ≤ c) : x.map (fun c => c - 96) = y.map (fun c => c - 96) ↔ x = y := by
  refine ⟨fun h => ?_, fun h => by rw [h]⟩
  have back : ∀ {z : List Nat}, (∀ c ∈ z, 97 ≤ c) → (z.map fun c => c - 96).map (fun c => c + 96) = z := fun {z} hz => by
    rw [List.map_map]
    conv => rhs; rw [← List.map_id z]
    exact List.map_congr_left fun c h => by have := hz c h; show c - 96 + 96 = c; omega
  rw [← back hx, h, back hy]
theorem fit_eq {W : Str} (hW : W.length = 8) (hc : ∀ c ∈ W.cps.toList, 97 ≤ c ∧ c ≤ 99) {n z : Nat} (hn : n ≤ 8) (h1 : 1 ≤ z) (hz : z ≤ 8) :
    fitP (sub (W.cps.toList.take n)) (sub (W.cps.toList.drop n)) (z : Int) = fitC (vB 4 (dsOf W)) n z := by
  have hl : W.cps.toList.length = 8 := by rw [← str_len, hW]
  rw [Bool.eq_iff_iff, fitP_iff hl hn h1 hz, fitC_iff (fun d hd => by have := ds_mem hc d hd; omega) (ds_len hW) hn hz]
  unfold dsOf
  rw [← List.map_take, ← List.map_drop, ← List.map_take, ← List.map_drop]
  exact (map96_inj (fun c h => (hc c (List.mem_of_mem_take (List.mem_of_mem_drop h))).1) (fun c h => (hc c (List.mem_of_mem_take (List.mem_of_mem_drop h))).1)).symm
theorem lsz_eq {W : Str} (hW : W.length = 8) (hc : ∀ c ∈ W.cps.toList, 97 ≤ c ∧ c ≤ 99) {n : Nat} (hn : n ≤ 8) : ∀ {k i : Nat}, i + k ≤ 8 →
    lsz (sub (W.cps.toList.take n)) (sub (W.cps.toList.drop n)) k i = ((lszC (vB 4 (dsOf W)) n k (i + 1) : Nat) : Int)
  | 0, _, _ => rfl
  | k + 1, i, h => by
    rw [lsz, lszC_succ, lsz_eq hW hc hn (k := k) (i := i + 1) (by omega), show (1 : Int) + (i : Int) = ((i + 1 : Nat) : Int) by omega, fit_eq hW hc hn (by omega) (by omega)]
    cases fitC (vB 4 (dsOf W)) n (i + 1) <;> rfl
theorem winOf_C (p : Nat) : winOf p = winC p := by
  unfold winOf winC
  cases e : Nat.ble p 2 with
  | true => have := Nat.le_of_ble_eq_true e; rw [if_neg (by omega)]; rfl
  | false =>
    rcases Nat.lt_or_ge 2 p with h | h
    · rw [if_pos h]; rfl
    · rw [Nat.ble_eq_true_of_le h] at e; cases e
theorem perC_ge (N : Nat) : ∀ (f k : Nat), k ≤ perC N f k
  | 0, k => Nat.le_refl _
  | f + 1, k => by
    rw [perC_succ]
    cases Nat.beq (N / 4 ^ k) (N % 4 ^ (8 - k)) with
    | true => exact Nat.le_refl _
    | false => have := perC_ge N f (k + 1); simp only [cond_false]; omega
theorem plain1 (W : Str) (wd : Nat) (hW : W.length = 8) (hc : ∀ c ∈ W.cps.toList, 97 ≤ c ∧ c ≤ 99) (w1 : 2 ≤ wd) (w2 : wd ≤ 12) : Plain1 W wd := by
  have hl := ds_len hW
  have hm := ds_mem hc
  have hd : ∀ d ∈ dsOf W, d < 4 := fun d h => by have := hm d h; omega
  have hd2 : ∀ d ∈ (dsOf W).map (fun d => 4 - d), d < 4 := fun d h => by
    obtain ⟨x, h', rfl⟩ := List.mem_map.mp h
    have := hm x h'; omega
  have hl2 : ((dsOf W).map fun d => 4 - d).length = 8 := by rw [List.length_map, hl]
  obtain ⟨g1, g2, g3, g4⟩ := goodC_get (good_word hl hm)
  have hper : perG (numOf wd W) wd 7 1 = perC (vB 4 (dsOf W)) 7 1 := by rw [num_eq wd hc, perG_eq w1 hl hd (by omega)]
  have hp8 : perC (vB 4 (dsOf W)) 7 1 ≤ 8 := by rw [← hper]; exact perG_le
  have hp1 := perC_ge (vB 4 (dsOf W)) 7 1
  have hsz : (cutSizes W (perC (vB 4 (dsOf W)) 7 1) 0).reverse = (List.range 8).map fun n => ((lszC (vB 4 (dsOf W)) n (perC (vB 4 (dsOf W)) 7 1) 1 : Nat) : Int) := by
    unfold cutSizes
    rw [List.drop_zero, List.map_reverse, List.reverse_reverse]
    refine List.map_congr_left fun n hn => ?_
    have := List.mem_range.mp hn
    exact lsz_eq hW hc (by omega) (by omega)
  have e2 : vB 4 ((dsOf W).map fun d => 4 - d) = 87380 - vB 4 (dsOf W) := by
    have := vB_comp (l := dsOf W) fun d h => by have := hm d h; omega
    rw [hl] at this
    have q : vB 4 (List.replicate 8 4) = 87380 := by decide +kernel
    omega
  have hg : ∀ i, i < 8 → ((List.range 8).map fun n => ((lszC (vB 4 (dsOf W)) n (perC (vB 4 (dsOf W)) 7 1) 1 : Nat) : Int))[i]? = some ((lszC (vB 4 (dsOf W)) i (perC (vB 4 (dsOf W)) 7 1) 1 : Nat) : Int) := fun i hi => by
    rw [List.getElem?_map, List.getElem?_range hi]; rfl
  constructor
  · rw [hper]; exact hp1
  · rw [hper, hsz, List.any_eq_false]
    intro x hx
    obtain ⟨n, hn, rfl⟩ := List.mem_map.mp hx
    have := g3 n (List.mem_range.mp hn)
    simp
    omega
  · rw [hper, hsz, winOf_C]
    intro k hk1 hk2
    obtain ⟨j, hj, q⟩ := g4 (k - 1) (by omega)
    rw [show k - 1 + 1 + j = k + j by omega] at q
    have z := hg (k + j) (by omega)
    rw [q] at z
    refine List.mem_of_getElem? (i := j) ?_
    rw [List.getElem?_take_of_lt hj, List.getElem?_drop]
    exact z
  · rw [hper, hsz, num_eq wd hc, num2_eq wd hc]
    intro M M2 hM hMx hM2 hMx2
    rw [late_eq w1 hl hd hM hMx, late_eq w1 hl2 hd2 hM2 hMx2, e2]
    refine ⟨g1, ?_⟩
    rw [hg _ (by omega), g2]
end Mine
end
-- LZ
open PySem PySem.W PyProof.Rows PySem.Calls PySem.Spec
namespace Mine
set_option maxRecDepth 100000
set_option maxHeartbeats 8000000
theorem whole (w : World) : Stretch w 3 AfterA := phB w (phC w (phD w (phE w (phF w (phG w (phH w plain1) plain1)))))
end Mine
open Mine
set_option maxRecDepth 100000 in
set_option maxHeartbeats 8000000 in
theorem PySem.Challenge.cw_re0104_01_holds : PySem.Challenge.rw_re0104_01.Holds := by
  refine Mine.hd ?_
  k_fill
  intro w s₀ s₁ mg mb G Y fa o pm cd doc dV kV ho hd hcd hD hmg hg args vals as hpre hlay hrd hwl hlo
  have KX := km_in_of Y
  have hT8 := km_tabs_of Y
  have X := (Ground.X G).1
  have V := (Ground.X G).2
  refine Ground.open G ?_
  intro T B D TE TW
  try (refine guard_noD D (by decide +kernel) ?_; clear D)
  have hT9 : TabsAt [(41,37),(48,44),(123,119)] s₁.heap := List.forall_mem_cons.mpr ⟨⟨codeHd_of_K (c:=41) (P:=37) KX (by kernel_rfl), hT8 37 (by k_mem)⟩, List.forall_mem_cons.mpr ⟨⟨codeHd_of_K (c:=48) (P:=44) KX (by kernel_rfl), hT8 44 (by k_mem)⟩, List.forall_mem_cons.mpr ⟨⟨codeHd_of_K (c:=123) (P:=119) KX (by kernel_rfl), hT8 119 (by k_mem)⟩, fun _ h => nomatch h⟩⟩⟩
  clear hmg
  wrow_args hpre hlay hrd hwl hlo
  all_goals (first | refine callC_kw (enter_call ?_) | refine enter_call ?_; w_top on; refine kn_postT hT9 (fun _ _ => rfl) (by kernel_rfl) ?_; w_call any ho hd hcd hD T F; clear hd; kn_ghosts F T; k_drop; skip)
  with_reducible rename Heap.IsList (ghostOf _ _) _ _ => hLift
  with_reducible rename IntsAre _ _ => hI
  with_reducible rename Fr _ _ _ _ => F
  with_reducible rename News _ _ _ _ => N
  with_reducible rename Below _ _ _ _ => B'
  with_reducible rename Top topProg _ _ _ _ _ => T'
  with_reducible rename Frag.In _ _ => X'
  have hlen := Nat.le_of_not_lt (fun h => (by assumption : ¬ ((63 : Nat) : Int) < _) (Int.ofNat_lt.mpr h))
  have A := fun ls => atLaw_use (Mine.phA w _ _ ls hI hlen (Mine.whole w)) (by k_is)
  refine A _ (ExcName.means s₀.heap) mg mb _ _ fa cd _ _ _ _ ⟨X', T', B'⟩ hLift F rfl N (AllBare.of_eq hg) ?_
  intro m h tk gs p1 p2 p3 F2 N2 G2
  exact ⟨rfl, fun b o e => F2.keep b o e, rfl, G2, by walk_at "GrownAll"⟩
