import PyProof.Rows.All
import Wide.All
import OpenK.AllK
import Wide.FinOn
import KE.BitLaws
import KE.IntBitsLaws
import PyProof.StrLawsTight
import Lean
import PySem.Challenge.RW_re0104_02
set_option Elab.async false
set_option rowWalk.seconds 0
-- HD2
section
open PySem PySem.W PyProof.Rows
namespace Mine
set_option maxRecDepth 100000
set_option maxHeartbeats 8000000
/-- the text's statements that bind a name which the walk needs: all but the four rows that name a module -/
noncomputable def hdView : Program := { Challenge.rw_re0104_02.row.prog with main := { Challenge.rw_re0104_02.row.prog.main with body := (((Challenge.rw_re0104_02.row.prog.main.body.eraseIdx 15).eraseIdx 12).eraseIdx 9).eraseIdx 1 } }
theorem look_ok : OpenLaw.wellSaid Challenge.rw_re0104_02 = true := by
  rw [PySem.W.Fast.te9446332074065402090]
  unfold PySem.W.Fast.tw9446332074065402090 PySem.W.Fast.tw17960256430627541270 PySem.W.Fast.tw2436336058641802641 PySem.W.Fast.tw12908688711261696721
  repeat' (with_reducible refine look_both ?_ ?_)
  all_goals decide +kernel
/-- the row's head from the start-up's own heap, which the library knows: the run and what is looked at behind it, at once -/
theorem left_at_boot {p q : Program} {loose : List Str} {Xt : Shared → Bool} {α : Type} {Yf : Shared → α} {Ya : World → α} {N : Nat} {m : Nat} {ann : Option Value}
    (hN : Nat.ble 600 N = true) (he : opening p = plainProg p.main.scope.names) (hf : ∀ s, fenceModules? p s = some s)
    (size : ∀ w : World, ((boot_heap w.params).isNs mainGlobals, (boot_heap w.params).objs.size, (boot_heap w.params).nsMap mainGlobals "__annotations__") = (true, m, ann))
    (run : ∀ (w : World) (os : OsState), (topRun treeTable p w m ann N ⟨boot_heap w.params, #[], boot_drawn, boot_toks, os⟩ (topStub p)).map (fun s =>
        ((staticsOk (importedModules p.main.body) (boot_heap w.params) s.heap && namesBound p s.heap && gensDone s && laidKept (boot_heap w.params) s.heap), openSeen q loose (importedModules p.main.body) Xt true s, Yf s)) = some (true, openGood q loose, Ya w)) :
    LeftO p q loose Xt Yf Ya N := by
  intro w
  obtain ⟨s, hs, hv⟩ := Option.map_eq_some_iff.mp (boot_open he hN hf w)
  obtain ⟨h, gs, d, k, os⟩ := s
  simp only [Prod.mk.injEq] at hv
  obtain ⟨h1, h2, h3, h4⟩ := hv
  subst h1 h2 h3 h4
  obtain ⟨s1, hr, hz⟩ := Option.map_eq_some_iff.mp (run w os)
  have z := size w
  simp only [Prod.mk.injEq] at z hz
  unfold openEnds
  rw [hs, Option.bind_some]
  unfold topFrom
  simp only [z.1, z.2.1, z.2.2]
  erw [hr]
  simp only [Option.bind_some]
  show (match (_ && _) with | true => some s1 | false => none).map _ = _
  erw [hz.1]
  exact congrArg some (Prod.ext hz.2.1 hz.2.2)
theorem size_ok (w : World) : ((boot_heap w.params).isNs mainGlobals, (boot_heap w.params).objs.size, (boot_heap w.params).nsMap mainGlobals "__annotations__") = (true, 11, some (Value.ref 6)) := by kernel_rfl
local macro_rules | `(tactic| o_head (kmHook $K $A $p $_)) => `(tactic| (
  refine holds_open (q := hdView) (loose := [Str.ofString "_Accumulator"]) (Xt := fun s => xlAt hdView [] s && recOk (RowW.records (OpenRow.toRowW Challenge.rw_re0104_02.row)) s) (XP := XL hdView []) (Yf := Hook.obs (kmHook $K $A $p [37, 44, 112])) (Ya := Hook.val (kmHook $K $A $p [37, 44, 112])) (YP := Hook.says (kmHook $K $A $p [37, 44, 112])) (N := 2058) ?hl (Hook.of _) (Hook.keeps _) (fun s e => xl_of s (Bool.and_eq_true_iff.mp e).1) XL.keeps (by rfl) (by rfl) (by rfl) (fun s e => recFacts_of (Bool.and_eq_true_iff.mp e).2) (by rfl) (by first | assumption | decide +kernel) (by decide +kernel) ⟨rfl, rfl, rfl, rfl, rfl, by decide +kernel⟩ ?hw ?hc;
  (case hl => exact left_at_boot (m := 11) (ann := some (Value.ref 6)) rfl rfl (fun _ => rfl) size_ok (fun w os => by rw [PySem.W.Fast.te14082659384304107361, PySem.W.Fast.te14364793385576792824, PySem.W.Fast.te4187177175401517315]; kernel_rfl))))
local macro_rules | `(tactic| o_law) => `(tactic| refine holds_law look_ok fun said => ?_)
open_top hd for PySem.Challenge.rw_re0104_02
end Mine
end
-- BBase1
section
open PySem PySem.W PyProof.Rows
namespace Mine
noncomputable abbrev KK (w : World) : Frag := hd.heap_1 w.params
noncomputable abbrev PR : Program := Challenge.rw_re0104_02.row.prog
noncomputable abbrev LO : List Str := looseW hdView [Str.ofString "_Accumulator"] ++ List.map (fun x => x.name) (recsOf hdView) ++ List.map (fun x => x.fst) (litsOf hdView) ++ List.map (fun x => x.name) (clssOf hdView (looseW hdView [Str.ofString "_Accumulator"]))
/-- the caller's side of a contract -/
structure Pre (w : World) (mean : ExcName → Option Value) (mg mb : Str → Option Value) (news : List (Addr × Obj)) (outer : List Env) (L : Addr) (m : Str → Option Value) (h₀ : Heap) (s : Shared) : Prop where
  x : 0 = 0
end Mine
end
-- Tool
section
namespace Mine
/-- the goal out of sight, while what is known is taken apart: the parts' proof terms would repeat it each time -/
theorem hideG {G : Prop} (k : ∀ P : Prop, (G → P) → P) : G := k G id
theorem room1 {dp a b R : Nat} (h : dp + b < R) (e : Nat.ble (a + 1) b = true) : dp + 1 + a < R := by
  have := Nat.le_of_ble_eq_true e
  omega
theorem units1 {un a b C : Nat} (h : un + 8 * b < C) (e : Nat.ble (a + 1) b = true) : un + 3 + 8 * a < C := by
  have := Nat.le_of_ble_eq_true e
  omega
theorem room0 {dp b R : Nat} (h : dp + b < R) : dp < R := Nat.lt_of_le_of_lt (Nat.le_add_right _ _) h
section
variable {α : Type} {a b : α} {A B C X : List α}
theorem ms_nil : ∀ p ∈ ([] : List α), p ∈ B := fun _ h => nomatch h
theorem ms_cons (h : a ∈ B) (t : ∀ p ∈ A, p ∈ B) : ∀ p ∈ a :: A, p ∈ B := fun p hp => by
  rcases List.mem_cons.mp hp with rfl | hp
  · exact h
  · exact t p hp
theorem ms_app (h : ∀ p ∈ A, p ∈ B) (t : ∀ p ∈ C, p ∈ B) : ∀ p ∈ A ++ C, p ∈ B := fun p hp => (List.mem_append.mp hp).elim (h p) (t p)
theorem ms_self : ∀ p ∈ X, p ∈ X := fun _ h => h
theorem ms_tail (t : ∀ p ∈ X, p ∈ B) : ∀ p ∈ X, p ∈ b :: B := fun p hp => .tail _ (t p hp)
theorem ms_left (t : ∀ p ∈ X, p ∈ B) : ∀ p ∈ X, p ∈ B ++ C := fun p hp => List.mem_append_left _ (t p hp)
theorem ms_right (t : ∀ p ∈ X, p ∈ C) : ∀ p ∈ X, p ∈ B ++ C := fun p hp => List.mem_append_right _ (t p hp)
end
end Mine
end
-- BPre1
section
open PySem PySem.W PyProof.Rows PySem.Calls
set_option maxRecDepth 100000
set_option maxHeartbeats 8000000
namespace Mine
theorem fill : (Challenge.rw_re0104_02, hd.heap_1) = (Challenge.rw_re0104_02, hd.heap_1) := by
  k_fill
  rfl
abbrev Ledg := List (Addr × Obj)
/-- behind a call: what was not told to it stands as it stood; what it hands on is new or was told -/
structure Back (news : Ledg) (h h' : Heap) (news' : Ledg) : Prop where
  keep : ∀ b o, h.get? b = some o → b ∉ news.map (·.1) → h'.get? b = some o
  new : ∀ p ∈ news', h.get? p.1 = none ∨ p.1 ∈ news.map (·.1)
/-- the ground that a call is entered upon -/
structure Grd (news : Ledg) (h g : Heap) : Prop where
  keep : ∀ b o, h.get? b = some o → b ∉ news.map (·.1) → g.get? b = some o
  none : ∀ b, g.get? b = none → h.get? b = none ∨ b ∈ news.map (·.1)
theorem grd_hide (news : Ledg) (h : Heap) : Grd news h (hideAll h (news.map (·.1))) where
  keep := fun b o e n => hideAll_get _ e n
  none := fun b e => by
    by_cases hb : b ∈ news.map (·.1)
    · exact .inr hb
    · cases q : h.get? b with
      | none => exact .inl rfl
      | some o => rw [hideAll_get _ q hb] at e; cases e
theorem Grd.back {news news' : Ledg} {h g h' : Heap} {L : Addr} {m : Str → Option Value} (G : Grd news h g) (F : Fr g L h' m) (N : News g L h' news') : Back news h h' news' where
  keep := fun b o e n => F.keep b o (G.keep b o e n)
  new := fun p hp => G.none _ (N p hp).2.2
/-- a call from any def's frame: what holds behind it -/
def CallOk (w : World) (mean : ExcName → Option Value) (mg mb : Str → Option Value) (news : Ledg) (D : Nat) (f : Addr) (args : List Value) (Post : Value → Ledg → Prop) : Prop :=
  ∀ (dp un : Nat) (gd : Option (List Code)) (cn : Str) (cs : Scope) (a' : Addr) (ccd : Value) (cl : List (Str × Addr)) (outer : List Env) (A₀ : Around) (base h₀ : Heap) (L : Addr) (m : Str → Option Value) (s : Shared) (Q E : Value → Shared → Prop),
    Below A₀ base outer h₀ → Fr h₀ L s.heap m → (hd.heap_1 w.params).In h₀ → News h₀ L s.heap news → Top topProg LO mean mg mb h₀ → cs.kind = .function →
    dp + D < recursionLimit → un + 8 * D < cLine →
    (∀ (r : Value) (news' : Ledg) (h' : Heap) (tk' : Nat), Fr h₀ L h' m → News h₀ L h' news' → Back news s.heap h' news' → Post r news' → Q r { s with heap := h', toks := tk' }) →
      wpAny (model Challenge.rw_re0104_02.row.prog w) (ktrTop dp un gd cn cs L a' ccd cl outer) (call (.ref f) args) Q E s
theorem CallOk.use {w : World} {mean : ExcName → Option Value} {mg mb : Str → Option Value} {news : Ledg} {D : Nat} {f : Addr} {args : List Value} {Post : Value → Ledg → Prop} (C : CallOk w mean mg mb news D f args Post)
    {dp un : Nat} {gd : Option (List Code)} {cn : Str} {cs : Scope} {a' : Addr} {ccd : Value} {cl : List (Str × Addr)} {outer : List Env} {A₀ : Around} {base h₀ : Heap} {L : Addr} {m : Str → Option Value} {s : Shared} {Q E : Value → Shared → Prop}
    (B : Below A₀ base outer h₀) (F : Fr h₀ L s.heap m) (X : (hd.heap_1 w.params).In h₀) (N : News h₀ L s.heap news) (T : Top topProg LO mean mg mb h₀) (hk : cs.kind = .function)
    (hd : dp + D < recursionLimit) (hu : un + 8 * D < cLine)
    (ret : ∀ (r : Value) (news' : Ledg) (h' : Heap) (tk' : Nat), Fr h₀ L h' m → News h₀ L h' news' → Back news s.heap h' news' → Post r news' → Q r { s with heap := h', toks := tk' }) :
      wpAny (model Challenge.rw_re0104_02.row.prog w) (ktrTop dp un gd cn cs L a' ccd cl outer) (call (.ref f) args) Q E s :=
  C _ _ _ _ _ _ _ _ _ _ _ _ _ _ _ _ _ B F X N T hk hd hu ret
abbrev tup2 (a b : Value) : Obj := { cls := .type "tuple", data := .seq #[a, b] }
section
variable {prog : Program} {w : World} {A A₀ : Around} {s : Shared} {K : Frag} {L : Addr} {h₀ base : Heap} {m mg mb : Str → Option Value} {news : Ledg} {p : Program} {loose : List Str} {mean : ExcName → Option Value}
theorem enter_of {env : Env} {outer : List Env} {R : Result → Shared → Prop} {name qual : Str} {params : Arguments} {body : List Stmt} {scope : Scope} {cl : List (Str × Addr)} {dV kV doc pm cdv ct : Value} {an : Option Addr} {f : Addr} {args : Args} {binds : List (Str × Value)} {fo : Obj}
    (B : Below A₀ base outer h₀) (F : Fr h₀ L s.heap m) (X₀ : K.In h₀) (N : News h₀ L s.heap news) (T : Top p loose mean mg mb h₀) (hA : A.frames = some (env :: outer)) (hf : env.frame = some L) (hke : env.scope.kind = .function)
    (ho : s.heap.get? f = some fo) (hd : fo.data = .func (fnX name qual params body scope cl dV kV doc pm an cdv ct)) (hcd : s.heap.CodeRec cdv qual) (hroom : A.depth < recursionLimit)
    (hbind : BindsTo s (fnX name qual params body scope cl dV kV doc pm an cdv ct) args binds) (hloc : ∀ y ∈ binds, scope.names.lookup y.1 = some .local)
    (h : ∀ g L' h₁, Grd news s.heap g → Fr h₀ L g m → Fr g L' h₁ (fun y => binds.reverse.lookup y) → News g L' h₁ news → Below A base (env :: outer) g → K.In g → Top p loose mean mg mb g → (∀ p ∈ news, p.1 < L') →
      wpAny (model prog w) (A.deeper (envX qual scope L' f cdv cl)) (execs body (envX qual scope L' f cdv cl))
        (fun fl s' => LeaveK h₀ L m g R (match fl with | .ret v => v | _ => .none) s')
        (fun e s' => wpAny (model prog w) (A.deeper (envX qual scope L' f cdv cl)) (leaving (envX qual scope L' f cdv cl) e) (fun _ s'' => R (.error e) s'') (fun e' s'' => R (.error e') s'') s')
        { s with heap := h₁, toks := s.toks + binds.length })
    (hco : scope.isCoroutine = false) (hgen : scope.isGenerator = false) (hk : scope.kind = .function)
    (hcell : ∀ x ∈ scope.names, x.2 ≠ .cell) : codeAny (model prog w) A (.call (.ref f) args) R s := by
  obtain ⟨FG, BG, st, lv⟩ := groundX (R := R) B F N hA hf hke
  refine codeAny_call_def (fd := fnX name qual params body scope cl dV kV doc pm an cdv ct) (body := body) (binds := binds) hroom ho hd (T.nolimit.keeps F.keep) hcd rfl hbind hcell hloc (fun h₁ hns hk₁ => ?_) hco hgen hk
  exact wpAny_mono (h _ s.heap.objs.size h₁ (grd_hide _ _) FG ⟨hns, fun b o e => hk₁ b o (of_hideAll _ e), Nat.le_of_eq (hideAll_size _ _)⟩
    (fun p hp => ⟨hk₁ _ _ (N p hp).1, Nat.ne_of_lt (Heap.lt_size (N p hp).1), hideAll_none _ (List.mem_map_of_mem hp)⟩) BG (X₀.keeps st) (T.keeps st) (fun p hp => Heap.lt_size (N p hp).1)) (fun fl s' hl => lv _ _ hl) fun _ _ y => y
theorem enter_K {env : Env} {outer : List Env} {R : Result → Shared → Prop} {name qual : Str} {params : Arguments} {body : List Stmt} {scope : Scope} {cl : List (Str × Addr)} {dV kV doc pm cdv ct oc : Value} {an od : Option Addr} {osl : Array (Option Value)} {f : Addr} {args : Args} {binds : List (Str × Value)}
    (B : Below A₀ base outer h₀) (F : Fr h₀ L s.heap m) (X₀ : K.In h₀) (N : News h₀ L s.heap news) (T : Top p loose mean mg mb h₀) (hA : A.frames = some (env :: outer)) (hf : env.frame = some L) (hke : env.scope.kind = .function)
    (ho : K.lookup f = some ⟨oc, od, .func (fnX name qual params body scope cl dV kV doc pm an cdv ct), osl⟩) (hcd : codeIn K cdv qual = true) (hroom : A.depth < recursionLimit)
    (hbind : BindsTo s (fnX name qual params body scope cl dV kV doc pm an cdv ct) args binds) (hloc : ∀ y ∈ binds, scope.names.lookup y.1 = some .local)
    (h : ∀ g L' h₁, Grd news s.heap g → Fr h₀ L g m → Fr g L' h₁ (fun y => binds.reverse.lookup y) → News g L' h₁ news → Below A base (env :: outer) g → K.In g → Top p loose mean mg mb g → (∀ p ∈ news, p.1 < L') →
      wpAny (model prog w) (A.deeper (envX qual scope L' f cdv cl)) (execs body (envX qual scope L' f cdv cl))
        (fun fl s' => LeaveK h₀ L m g R (match fl with | .ret v => v | _ => .none) s')
        (fun e s' => wpAny (model prog w) (A.deeper (envX qual scope L' f cdv cl)) (leaving (envX qual scope L' f cdv cl) e) (fun _ s'' => R (.error e) s'') (fun e' s'' => R (.error e') s'') s')
        { s with heap := h₁, toks := s.toks + binds.length })
    (hco : scope.isCoroutine = false) (hgen : scope.isGenerator = false) (hk : scope.kind = .function)
    (hcell : ∀ x ∈ scope.names, x.2 ≠ .cell) : codeAny (model prog w) A (.call (.ref f) args) R s :=
  enter_of (cl := cl) B F X₀ N T hA hf hke ((X₀.keeps F.keep) _ _ ho) rfl (codeRec_of (X₀.keeps F.keep) hcd) hroom hbind hloc h hco hgen hk hcell
theorem enterC_K {env : Env} {outer : List Env} {R : Result → Shared → Prop} {name qual : Str} {params : Arguments} {body : List Stmt} {scope : Scope} {dV kV doc pm cdv ct oc : Value} {an od : Option Addr} {osl : Array (Option Value)} {f : Addr} {args : Args} {binds : List (Str × Value)}
    (B : Below A₀ base outer h₀) (F : Fr h₀ L s.heap m) (X₀ : K.In h₀) (N : News h₀ L s.heap news) (T : Top p loose mean mg mb h₀) (hA : A.frames = some (env :: outer)) (hf : env.frame = some L) (hke : env.scope.kind = .function)
    (ho : K.lookup f = some ⟨oc, od, .func (fnOf name qual params body scope dV kV doc pm an cdv ct), osl⟩) (hcd : codeIn K cdv qual = true) (hroom : A.depth < recursionLimit)
    (hbind : BindsTo s (fnOf name qual params body scope dV kV doc pm an cdv ct) args binds) (hkind : (binds.all fun y => scope.names.lookup y.1 == some .local || scope.names.lookup y.1 == some .cell) = true)
    (hnd : ((cellsFrom 0 scope.names []).map (·.1)).Nodup)
    (h : ∀ g L' h₁ tk cells, Grd news s.heap g → Fr h₀ L g m → Fr g L' h₁ (bindL (envOfC qual scope L' f cdv).kindOf binds fun _ => none) → News g L' h₁ (cells ++ news) →
      CellsAre (bindC (envOfC qual scope L' f cdv).kindOf binds fun _ => none) (cellsFrom (L' + 1) scope.names []) cells → Below A base (env :: outer) g → K.In g → Top p loose mean mg mb g → (∀ p ∈ news, p.1 < L') →
      wpAny (model prog w) (A.deeper (envOfC qual scope L' f cdv)) (execs body (envOfC qual scope L' f cdv))
        (fun fl s' => LeaveK h₀ L m g R (match fl with | .ret v => v | _ => .none) s')
        (fun e s' => wpAny (model prog w) (A.deeper (envOfC qual scope L' f cdv)) (leaving (envOfC qual scope L' f cdv) e) (fun _ s'' => R (.error e) s'') (fun e' s'' => R (.error e') s'') s')
        { s with heap := h₁, toks := tk })
    (hco : scope.isCoroutine = false) (hgen : scope.isGenerator = false) (hk : scope.kind = .function) : codeAny (model prog w) A (.call (.ref f) args) R s := by
  obtain ⟨FG, BG, st, lv⟩ := groundX (R := R) B F N hA hf hke
  have X := X₀.keeps F.keep
  refine codeAny_call_function (fd := fnOf name qual params body scope dV kV doc pm an cdv ct) hroom (X _ _ ho) rfl hco hgen rfl (codeRec_of X hcd) (hbind _ _ _ _ ?_)
  refine wpAny_newFunctionEnv_cells hk (kindsX hkind _) fun env' he s' x => ?_
  subst he
  refine ⟨(T.nolimit.keeps F.keep).keeps x.toInCall.keep, codeAny_func ?_⟩
  obtain ⟨h₁, tk, rfl, _⟩ := x.done
  have hk₁ := x.toInCall.keep
  obtain ⟨cells, NC, Y⟩ := Cl.news (h₀ := s.heap) (Nat.le_refl _) fun n c hm => ⟨x.cell n c (lookup_of_mem_nodup (cellsFrom_names scope.names 0 (s.heap.objs.size + 1) [] [] rfl ▸ hnd) hm), x.above n c hm⟩
  refine wpAny_mono (h _ s.heap.objs.size h₁ tk cells (grd_hide _ _) FG ⟨x.toInCall.ns, fun b o e => hk₁ b o (of_hideAll _ e), Nat.le_of_eq (hideAll_size _ _)⟩ (fun p hp => ?_) Y BG (X₀.keeps st) (T.keeps st) (fun p hp => Heap.lt_size (N p hp).1)) (fun fl s' hl => lv _ _ hl) fun _ _ y => y
  rcases List.mem_append.mp hp with hp | hp
  · refine ⟨(NC p hp).1, (NC p hp).2.1, ?_⟩
    cases q : (hideAll s.heap (news.map (·.1))).get? p.1 with
    | none => rfl
    | some o => have := of_hideAll _ q; rw [(NC p hp).2.2] at this; cases this
  · exact ⟨hk₁ _ _ (N p hp).1, Nat.ne_of_lt (Heap.lt_size (N p hp).1), hideAll_none _ (List.mem_map_of_mem hp)⟩
end
theorem ledOf {h₀ h : Heap} {L : Addr} {news : Ledg} (_ : News h₀ L h news) : ∃ led, led = news := ⟨_, rfl⟩
theorem newsSub {h₀ h : Heap} {L : Addr} {news news' : Ledg} (N : News h₀ L h news') (hs : ∀ p ∈ news, p ∈ news') : News h₀ L h news := fun p hp => N p (hs p hp)
theorem ledCut {P : Prop} {h₀ h : Heap} {L D : Addr} {o : Obj} {news : Ledg} {g : Obj → Ledg} (_ : News h₀ L h news) (_ : UpdF D o news g) (k : ∀ led : Obj → Ledg, led = g → P) : P := k g rfl
/-- a table of code objects: empty, or with the one inner def's -/
inductive Tab (line col : Nat) (q : Str) : Array Value → Ledg → Prop
  | none : Tab line col q #[] []
  | some {c : Addr} {oc : Obj} {vs : Array Value} {t : Tok} : oc.data = .fields vs → vs[1]? = .some (.str q t) → Tab line col q #[rawInt line, rawInt col, .ref c] [(c, oc)]
end Mine
end
-- BCDIV
section
open PySem PySem.W PyProof.Rows
set_option maxRecDepth 100000
set_option maxHeartbeats 8000000
namespace Mine
theorem off1 : True := by
  w_top off
  k_with_none
  exact trivial
theorem fill3 : (Challenge.rw_re0104_02, hd.heap_1) = (Challenge.rw_re0104_02, hd.heap_1) := by
  k_fill
  rfl
theorem div2n1n_ok (w : World) (mean : ExcName → Option Value) (mg mb : Str → Option Value) (a b n : Int) (ta tb tn : Tok) (hb : b ≠ 0) (hp : b.natAbs.log2 < 9000) (hA : (Builtin.Int.intBits a : Int) - n ≤ 4000) :
    CallOk w mean mg mb [] 2 28 [.int a ta, .int b tb, .int n tn] (fun r news' => ∃ r' t1 t2, r = .ref r' ∧ news' = [(r', tup2 (.int (a.fdiv b) t1) (.int (a.fmod b) t2))]) := by
  unfold CallOk
  intro dp un gd cn cs a' ccd cl outer A₀ base h₀ L m s Q E B F X N T hk hdp hun hret
  refine wpAny_call ?_
  (refine' enter_K ?k1 ?k2 ?k3 ?k4 ?k5 ?kA ?kF ?kK ?k6 ?k7 ?k8 ?k9 ?kB ?_ ?c2 ?c3 ?c4 ?c5; (case kA => exact rfl); (case kF => exact rfl); (case kK => assumption); (case k1 => k_asm); (case k2 => k_asm); (case k3 => k_asm); (case k4 => k_asm); (case k5 => k_asm); (case k6 => k_is); (case k7 => k_is); (case k8 => first | exact room0 hdp | ktr_room); (case k9 => exact BindsTo.of_eq rfl); (case c5 => decide); (case kB => exact locs rfl); (case c2 => exact rfl); (case c3 => exact rfl); (case c4 => exact rfl); k_whole; intro g L' h' G FG F' N' B' X' T' l1; (try dsimp only); (try k_fold))
  k_steps
  with_reducible rename Fr _ _ _ _ => F'
  with_reducible rename News _ _ _ _ => N'
  refine divmod_N F' N' hb ?_ (.inl (PyProof.noPylong_of_log2 hp))
  intro h9 F9 N9
  k_steps
  with_reducible rename Fr h₀ _ _ _ => Fe
  with_reducible rename News h₀ _ _ _ => Ne
  exact hret _ _ _ _ Fe Ne (G.back F9 N9) ⟨_, _, _, rfl, rfl⟩
end Mine
end
-- BNestT
section
open PySem PySem.W PyProof.Rows PySem.Calls
set_option maxRecDepth 100000
namespace Mine
theorem updF_own {P : Addr} {o : Obj} : ∀ {own : Ledg}, (∀ q ∈ own, q.1 ≠ P) → UpdF P o (own ++ [(P, o)]) (fun o' => own ++ [(P, o')])
  | [], _ => .head (fun _ h => nomatch h)
  | q :: r, h => .tail (h q (.head _)) (updF_own fun x hx => h x (.tail _ hx))
section
variable {M : Model} {A : Around} {E : Value → Shared → Prop} {s : Shared} {h₀ : Heap} {L a c P : Addr} {m mg mb : Str → Option Value} {cn : Str} {cs : Scope} {ccd : Value} {cl : List (Str × Addr)} {own ex : Ledg}
  {p : Program} {loose : List Str} {mean : ExcName → Option Value} {name qual : Str} {params : Arguments} {body : List Stmt} {scope : Scope} {ps : Array Value} {pos : Pos} {firstLine : Nat} {clos : List (Str × Addr)}
/-- an inner def is made, whether its code stands in the table or not -/
theorem nestT {Q : Value → Shared → Prop} {B : Nat} (F : Fr h₀ L s.heap m) (N : News h₀ L s.heap (own ++ (P, tabObj ps) :: ex)) (T : Top p loose mean mg mb h₀) (C : CodeHd h₀ c P) (hcd : ccd = .ref c) (tab : Tab pos.line pos.col qual ps ex)
    (ho : ∀ q ∈ own, q.1 ≠ P) (hB : ∀ q ∈ ex, @LT.lt Nat _ q.1 B) (hcl : closureFor scope (envX cn cs L a ccd cl) = pure clos)
    (h : ∀ f c' oc vs t ctv doc h' tk, Fr h₀ L h' m →
      News h₀ L h' ((f, fnMade name qual params body scope clos doc ((mg "__name__").getD .none) c' ctv) :: (own ++ [(P, tabObj #[rawInt pos.line, rawInt pos.col, .ref c']), (c', oc)])) →
      oc.data = .fields vs → vs[1]? = some (.str qual t) → (@LT.lt Nat _ c' B ∨ AllLt c' own) → (∀ q ∈ own, q.1 < f) → P < f → c' < f → Q (.ref f) { s with heap := h', toks := tk }) :
    wpAny M A (makeFunction name qual params (.stmts body) scope (envX cn cs L a ccd cl) [] [] [] pos firstLine) Q E s := by
  cases tab with
  | none =>
    refine nest_K F N T C hcd (updF_own ho) trivial rfl hcl ?_
    intro f c' oc vs t ctv doc h' tk F' N' hd hv l1 l2
    refine h f c' oc vs t ctv doc h' tk F' (fun q hq => N' q ?_) hd hv (.inr (allLt_of fun q hq => l1 q (List.mem_append_left _ hq))) (fun q hq => Nat.lt_trans (l1 q (List.mem_append_left _ hq)) l2) (Nat.lt_trans (l1 (P, tabObj #[]) (List.mem_append_right _ (.head _))) l2) l2
    simp only [List.mem_cons, List.mem_append, List.not_mem_nil, or_false] at hq ⊢
    rcases hq with h | h | h | h
    · exact .inl h
    · exact .inr (.inr (.inl h))
    · exact .inr (.inr (.inr (by rw [h]; rfl)))
    · exact .inr (.inl h)
  | @some cc oc vs t hd hv =>
    refine nestHit_K (c' := cc) F N T C hcd (List.mem_append_right _ (.head _)) (by kn_triples) (by kn_hit) hcl ?_
    intro f ctv doc h' tk F' N' l1
    exact h f cc oc vs t ctv doc h' tk F' N' hd hv (.inl (hB _ (.head _))) (fun q hq => l1 q (List.mem_append_left _ hq)) (l1 (P, _) (List.mem_append_right _ (.head _))) (l1 (cc, oc) (List.mem_append_right _ (.tail _ (.head _))))
end
end Mine
end
-- Num
section
open PySem
namespace Mine
/-- the number whose digits, least first, are these -/
def unD (B : Int) : List Int → Int
  | [] => 0
  | d :: r => d + B * unD B r
theorem unD_append (B : Int) : ∀ xs ys : List Int, unD B (xs ++ ys) = unD B xs + B ^ xs.length * unD B ys
  | [], ys => by simp [unD]
  | d :: r, ys => by
    rw [List.cons_append, unD, unD_append B r ys, unD, List.length_cons, Int.pow_succ, Int.mul_add]
    rw [Int.mul_comm (B ^ r.length) B, Int.mul_assoc]; omega
theorem unD_nonneg {B : Int} (hB : 0 ≤ B) : ∀ {xs : List Int}, (∀ d ∈ xs, 0 ≤ d) → 0 ≤ unD B xs
  | [], _ => Int.le_refl 0
  | d :: r, h => by
    have h1 := h d (.head _)
    have h2 := unD_nonneg hB (xs := r) fun x hx => h x (.tail _ hx)
    have := Int.mul_nonneg hB h2
    rw [unD]; omega
theorem unD_le {B C : Int} (hB : 2 ≤ B) (hC : 0 ≤ C) : ∀ {xs : List Int}, (∀ d ∈ xs, d < C) → unD B xs + C ≤ C * B ^ xs.length
  | [], _ => by simp [unD]
  | d :: r, h => by
    have h1 := h d (.head _)
    have h2 := unD_le hB hC (xs := r) fun x hx => h x (.tail _ hx)
    rw [unD, List.length_cons, Int.pow_succ]
    generalize B ^ r.length = P at h2
    generalize unD B r = u at h2
    have h3 : B * (u + C) ≤ B * (C * P) := Int.mul_le_mul_of_nonneg_left h2 (by omega)
    rw [Int.mul_add] at h3
    have h4 : 2 * C ≤ B * C := Int.mul_le_mul_of_nonneg_right hB hC
    have h5 : C * (P * B) = B * (C * P) := by rw [← Int.mul_assoc, Int.mul_comm]
    omega
theorem two_le_pow {n : Nat} (h : 0 < n) : (2 : Int) ≤ 2 ^ n := by
  obtain ⟨k, rfl⟩ : ∃ k, n = k + 1 := ⟨n - 1, by omega⟩
  have : (0 : Int) < 2 ^ k := Int.pow_pos (by decide)
  rw [Int.pow_succ]; omega
theorem pow_le_pow2 {a b : Nat} (h : a ≤ b) : (2 : Int) ^ a ≤ 2 ^ b := by
  have : (2 : Nat) ^ a ≤ 2 ^ b := Nat.pow_le_pow_right (by decide) h
  have h2 : ((2 ^ a : Nat) : Int) ≤ ((2 ^ b : Nat) : Int) := Int.ofNat_le.mpr this
  rw [Int.natCast_pow, Int.natCast_pow] at h2
  exact h2
theorem bits_of_lt {x : Int} {k : Nat} (h0 : 0 ≤ x) (h : x < 2 ^ k) : Builtin.Int.intBits x ≤ k := by
  refine PyProof.Rows.intBits_le ?_
  have h2 : ((2 : Int) ^ k) = ((2 ^ k : Nat) : Int) := by rw [Int.natCast_pow]; rfl
  rw [h2] at h
  omega
theorem unD_bits {n : Int} (hn : 0 < n) (hn2 : n < 200) {xs : List Int} (hl : xs.length < 10) (h : ∀ d ∈ xs, 0 ≤ d ∧ d < 2 ^ 1000) : 0 ≤ unD (2 ^ n.toNat) xs ∧ Builtin.Int.intBits (unD (2 ^ n.toNat) xs) ≤ 3000 := by
  have h0 := unD_nonneg (B := 2 ^ n.toNat) (Int.le_of_lt (Int.pow_pos (by decide))) fun d hd => (h d hd).1
  refine ⟨h0, bits_of_lt h0 ?_⟩
  have h1 := unD_le (B := 2 ^ n.toNat) (C := 2 ^ 1000) (two_le_pow (by omega)) (Int.le_of_lt (Int.pow_pos (by decide))) (fun d hd => (h d hd).2)
  have h2 : ((2 : Int) ^ 1000) * (2 ^ n.toNat) ^ xs.length = 2 ^ (1000 + n.toNat * xs.length) := by rw [← Int.pow_mul, ← Int.pow_add]
  have h3 : n.toNat * xs.length ≤ 199 * 9 := Nat.mul_le_mul (by omega) (by omega)
  have h4 := pow_le_pow2 (a := 1000 + n.toNat * xs.length) (b := 3000) (by omega)
  have h5 : (0 : Int) < 2 ^ 1000 := Int.pow_pos (by decide)
  rw [h2] at h1
  generalize (2 : Int) ^ 1000 = P at *
  generalize (2 : Int) ^ 3000 = R at *
  generalize (2 : Int) ^ (1000 + n.toNat * xs.length) = S at *
  omega
theorem take_drop_split {α : Type} (xs : List α) (a p q : Nat) : (xs.drop a).take (p + q) = (xs.drop a).take p ++ (xs.drop (a + p)).take q := by
  rw [List.take_add, List.drop_drop]
theorem unD_split {n Lo mid Hi : Int} {ns : List Int} (hn : 0 < n) (h0 : 0 ≤ Lo) (h1 : Lo < mid) (h2 : mid < Hi) (h3 : Hi ≤ ns.length) :
    unD (2 ^ n.toNat) ((ns.drop mid.toNat).take (Hi - mid).toNat) * 2 ^ ((mid - Lo) * n).toNat + unD (2 ^ n.toNat) ((ns.drop Lo.toNat).take (mid - Lo).toNat) = unD (2 ^ n.toNat) ((ns.drop Lo.toNat).take (Hi - Lo).toNat) := by
  have e : (Hi - Lo).toNat = (mid - Lo).toNat + (Hi - mid).toNat := by omega
  have e2 : Lo.toNat + (mid - Lo).toNat = mid.toNat := by omega
  rw [e, take_drop_split, unD_append, e2]
  have e3 : ((ns.drop Lo.toNat).take (mid - Lo).toNat).length = (mid - Lo).toNat := by
    rw [List.length_take, List.length_drop]; omega
  have e4 : ((mid - Lo) * n).toNat = n.toNat * (mid - Lo).toNat := by
    rw [Int.toNat_mul (by omega) (by omega), Nat.mul_comm]
  rw [e3, e4, ← Int.pow_mul]
  generalize (2 : Int) ^ (n.toNat * (mid - Lo).toNat) = P
  rw [Int.mul_comm, Int.add_comm]
/-- the digits of a number, least first; the last one holds the rest -/
def digs (B : Int) : Nat → Int → List Int
  | 0, _ => []
  | 1, x => [x]
  | k + 2, x => x % B :: digs B (k + 1) (x / B)
theorem digs_length (B : Int) : ∀ (k : Nat) (x : Int), (digs B k x).length = k
  | 0, _ => rfl
  | 1, _ => rfl
  | k + 2, x => by rw [digs, List.length_cons, digs_length B (k + 1)]
theorem unD_digs (B : Int) : ∀ (k : Nat) (x : Int), unD B (digs B (k + 1) x) = x
  | 0, x => by simp [digs, unD]
  | k + 1, x => by
    rw [digs, unD, unD_digs B k (x / B)]
    have := Int.emod_add_mul_ediv x B
    omega
theorem digs_bound {B : Int} (hB : 0 < B) : ∀ (k : Nat) (x : Int), 0 ≤ x → x < B ^ (k + 1) → ∀ d ∈ digs B (k + 1) x, 0 ≤ d ∧ d < B
  | 0, x, h0, h1, d, hd => by
    rw [digs] at hd
    rw [List.mem_singleton.mp hd]
    exact ⟨h0, by rw [show (0 + 1) = 1 from rfl, Int.pow_succ, Int.pow_zero, Int.one_mul] at h1; exact h1⟩
  | k + 1, x, h0, h1, d, hd => by
    rw [digs] at hd
    rcases List.mem_cons.mp hd with rfl | hd
    · exact ⟨Int.emod_nonneg _ (by omega), Int.emod_lt_of_pos _ hB⟩
    · refine digs_bound hB k (x / B) (Int.ediv_nonneg h0 (by omega)) ?_ d hd
      refine Int.ediv_lt_of_lt_mul hB ?_
      rw [← Int.pow_succ]; exact h1
theorem digs_split {B : Int} (hB : 0 < B) : ∀ (p q : Nat) (x : Int), digs B (p + 1) (x % B ^ (p + 1)) ++ digs B (q + 1) (x / B ^ (p + 1)) = digs B (p + 1 + (q + 1)) x
  | 0, q, x => by
    rw [show 0 + 1 + (q + 1) = q + 2 by omega, digs, digs, show B ^ (0 + 1) = B by rw [Int.pow_succ, Int.pow_zero, Int.one_mul]]
    rfl
  | p + 1, q, x => by
    have ih := digs_split hB p q (x / B)
    have e1 : x % B ^ (p + 1 + 1) % B = x % B := Int.emod_emod_of_dvd x ⟨B ^ (p + 1), by rw [Int.pow_succ, Int.mul_comm]⟩
    have hP : 0 < B ^ (p + 1) := Int.pow_pos hB
    have e2 : x % B ^ (p + 1 + 1) / B = x / B % B ^ (p + 1) := by
      have a1 := Int.emod_add_mul_ediv x (B ^ (p + 1 + 1))
      have a2 : B ^ (p + 1 + 1) = B * B ^ (p + 1) := by rw [Int.pow_succ, Int.mul_comm]
      rw [a2] at a1 ⊢
      have a3 : x / B = (x % (B * B ^ (p + 1))) / B + B ^ (p + 1) * (x / (B * B ^ (p + 1))) := by
        have a4 : x / B = (x % (B * B ^ (p + 1)) + B * B ^ (p + 1) * (x / (B * B ^ (p + 1)))) / B := by rw [a1]
        rw [Int.mul_assoc, Int.add_mul_ediv_left _ _ (by omega)] at a4
        exact a4
      rw [a3, Int.add_mul_emod_self_left]
      refine (Int.emod_eq_of_lt (Int.ediv_nonneg (Int.emod_nonneg _ ?_) (by omega)) (Int.ediv_lt_of_lt_mul hB ?_)).symm
      · exact Int.ne_of_gt (Int.mul_pos hB hP)
      · rw [Int.mul_comm (B ^ (p + 1)) B]; exact Int.emod_lt_of_pos _ (Int.mul_pos hB hP)
    have e3 : x / B ^ (p + 1 + 1) = x / B / B ^ (p + 1) := by
      rw [show B ^ (p + 1 + 1) = B * B ^ (p + 1) by rw [Int.pow_succ, Int.mul_comm], Int.ediv_ediv_of_nonneg (by omega)]
    rw [show p + 1 + 1 + (q + 1) = (p + 1 + q) + 2 by omega, digs, digs, e1, e2, e3, List.cons_append, ih, show p + 1 + (q + 1) = p + 1 + q + 1 by omega]
theorem land_high (x k : Nat) : x &&& (x / 2 ^ k * 2 ^ k) = x / 2 ^ k * 2 ^ k := by
  apply Nat.eq_of_testBit_eq
  intro i
  rw [Nat.testBit_and, Nat.mul_comm, Nat.testBit_two_pow_mul, Nat.testBit_div_two_pow]
  by_cases h : k ≤ i
  · simp only [h, decide_true, Bool.true_and]
    rw [show i - k + k = i by omega, Bool.and_self]
  · simp [h]
theorem xor_low {x : Int} (k : Nat) (h : 0 ≤ x) : Builtin.bitXor x (x.fdiv (2 ^ k) * 2 ^ k) = x % 2 ^ k := by
  obtain ⟨n, rfl⟩ := Int.eq_ofNat_of_zero_le h
  have hp : ((2 : Int) ^ k) = ((2 ^ k : Nat) : Int) := by rw [Int.natCast_pow]; rfl
  have e1 : ((n : Int)).fdiv (2 ^ k) * 2 ^ k = ((n / 2 ^ k * 2 ^ k : Nat) : Int) := by
    rw [Int.fdiv_eq_ediv_of_nonneg _ (Int.le_of_lt (Int.pow_pos (by decide))), hp, ← Int.natCast_ediv, ← Int.natCast_mul]
  rw [e1, PyProof.Rows.bitXor_and, PyProof.Rows.bitAnd_pp (Int.natCast_nonneg _) (Int.natCast_nonneg _), Int.toNat_natCast, Int.toNat_natCast, land_high, hp, ← Int.natCast_emod]
  have := Nat.mod_add_div n (2 ^ k)
  rw [Nat.mul_comm] at this
  omega
/-- the places Lo, .. Hi - 1 written anew -/
def put (ns : List Int) (Lo Hi : Nat) (ds : List Int) : List Int := ns.take Lo ++ ds ++ ns.drop Hi
theorem put_length {ns ds : List Int} {Lo Hi : Nat} (h1 : Lo ≤ Hi) (h2 : Hi ≤ ns.length) (hd : ds.length = Hi - Lo) : (put ns Lo Hi ds).length = ns.length := by
  unfold put
  rw [List.length_append, List.length_append, List.length_take, List.length_drop, hd]; omega
theorem put_put {ns ds es : List Int} {Lo mid Hi : Nat} (h1 : Lo ≤ mid) (h2 : mid ≤ Hi) (h3 : Hi ≤ ns.length) (hd : ds.length = mid - Lo) : put (put ns Lo mid ds) mid Hi es = put ns Lo Hi (ds ++ es) := by
  unfold put
  have e0 : (ns.take Lo ++ ds).length = mid := by rw [List.length_append, List.length_take, hd]; omega
  rw [List.take_append_of_le_length (by omega), ← e0, List.take_length, e0]
  rw [List.drop_append, List.drop_of_length_le (by omega), List.nil_append, List.drop_drop, e0, show mid + (Hi - mid) = Hi by omega]
  simp
theorem put_one {ns : List Int} {Lo Hi : Nat} {x : Int} (h : Lo + 1 = Hi) (h2 : Hi ≤ ns.length) : ns.set Lo x = put ns Lo Hi [x] := by
  subst h
  unfold put
  rw [List.set_eq_take_append_cons_drop, if_pos (by omega)]
  simp
theorem i2d_join {n x Lo mid Hi : Int} (hn : 0 < n) (h2 : Lo < mid) (h3 : mid < Hi) :
    digs (2 ^ n.toNat) (mid - Lo).toNat (x % 2 ^ ((mid - Lo) * n).toNat) ++ digs (2 ^ n.toNat) (Hi - mid).toNat (x.fdiv (2 ^ ((mid - Lo) * n).toNat)) = digs (2 ^ n.toNat) (Hi - Lo).toNat x := by
  obtain ⟨p, hp⟩ : ∃ p, (mid - Lo).toNat = p + 1 := ⟨(mid - Lo).toNat - 1, by omega⟩
  obtain ⟨q, hq⟩ : ∃ q, (Hi - mid).toNat = q + 1 := ⟨(Hi - mid).toNat - 1, by omega⟩
  have e4 : ((mid - Lo) * n).toNat = n.toNat * (p + 1) := by
    rw [Int.toNat_mul (by omega) (by omega), Nat.mul_comm, hp]
  rw [Int.fdiv_eq_ediv_of_nonneg _ (Int.le_of_lt (Int.pow_pos (by decide))), e4, hp, hq, show (Hi - Lo).toNat = p + 1 + (q + 1) by omega, Int.pow_mul]
  exact digs_split (Int.pow_pos (by decide)) p q x
theorem emod_pow_lt {x P : Int} {k : Nat} (h0 : 0 ≤ x) (h1 : x < P) : 0 ≤ x % 2 ^ k ∧ x % 2 ^ k < P := by
  have hp : (0 : Int) < 2 ^ k := Int.pow_pos (by decide)
  have a := Int.emod_nonneg x (Int.ne_of_gt hp)
  have b : x % 2 ^ k ≤ x := by
    have c := Int.emod_add_mul_ediv x (2 ^ k)
    have d : 0 ≤ 2 ^ k * (x / 2 ^ k) := Int.mul_nonneg (Int.le_of_lt hp) (Int.ediv_nonneg h0 (Int.le_of_lt hp))
    omega
  exact ⟨a, by omega⟩
theorem fdiv_pow_lt {x P : Int} {k : Nat} (h0 : 0 ≤ x) (h1 : x < P) : 0 ≤ x.fdiv (2 ^ k) ∧ x.fdiv (2 ^ k) < P := by
  have hp : (0 : Int) < 2 ^ k := Int.pow_pos (by decide)
  rw [Int.fdiv_eq_ediv_of_nonneg _ (Int.le_of_lt hp)]
  have a := Int.ediv_nonneg h0 (Int.le_of_lt hp)
  have b := Int.ediv_le_self (2 ^ k) h0
  exact ⟨a, by omega⟩
theorem put_all {ns ds : List Int} : put ns 0 ns.length ds = ds := by
  unfold put; simp
end Mine
end
-- BCD2I
section
open PySem PySem.W PyProof.Rows PySem.Calls
set_option maxRecDepth 100000
set_option maxHeartbeats 8000000
namespace Mine
theorem off2 : True := by
  w_top off
  k_with_none
  exact trivial
theorem fill4 : (Challenge.rw_re0104_02, hd.heap_1) = (Challenge.rw_re0104_02, hd.heap_1) := by
  k_fill
  rfl
theorem lineCD2I1 : True := by
  k_with "binaryOp LShift int int" => (refine lshift_int (by assumption) (by assumption) ?_)
  exact trivial
abbrev qD2I : Str := qualnameIn (envOfC (Str.ofString "_digits2int") default 0 49 (Value.ref 48)) (Str.ofString "inner") (Str.ofString "inner")
theorem unD_one {B Lo Hi : Int} {ns : List Int} (h : Lo + 1 = Hi) (h0 : 0 ≤ Lo) (h3 : Hi ≤ ns.length) : unD B ((ns.drop Lo.toNat).take (Hi - Lo).toNat) = ns.getD Lo.toNat 0 := by
  have e : (Hi - Lo).toNat = 1 := by omega
  have hl : Lo.toNat < ns.length := by omega
  rw [e, List.drop_eq_getElem_cons hl, List.take_succ_cons, List.take_zero, unD, unD, Int.mul_zero, Int.add_zero]
  simp [List.getD, hl]
theorem len_td {α : Type} (xs : List α) (a b : Nat) {k : Nat} (h : xs.length < k) : ((xs.drop a).take b).length < k := by
  rw [List.length_take, List.length_drop]; omega
theorem td_all (ns : List Int) : (ns.drop (Int.toNat 0)).take ((ns.length : Int) - 0).toNat = ns := by
  rw [Int.toNat_zero, List.drop_zero, Int.sub_zero, Int.toNat_natCast, List.take_length]
theorem mem_td {α : Type} {xs : List α} {a b : Nat} {d : α} (h : d ∈ (xs.drop a).take b) : d ∈ xs := List.mem_of_mem_drop (List.mem_of_mem_take h)
theorem le_mul_bound {a n : Int} (h0 : 0 ≤ a) (h1 : a ≤ 10) (h2 : 0 ≤ n) (h3 : n ≤ 200) : a * n ≤ 2000 := by
  have := Int.mul_le_mul h1 h3 h2 (by decide)
  omega
theorem d2i (w : World) (mean : ExcName → Option Value) (mg mb : Str → Option Value) (l : Addr) (vs : List Value) (ns : List Int) (nn : Nat) (n : Int) (tn : Tok) {ps : Array Value} {ex : Ledg} (ht : Tab 50 4 qD2I ps ex) (hn : 0 < n) (hn2 : n < 200) (hI : IntsAre vs ns) (hl : 0 < ns.length) (hl2 : ns.length < 10) (h44 : l ≠ 44) (hB : ∀ d ∈ ns, 0 ≤ d ∧ d < 2 ^ 1000) :
    CallOk w mean mg mb ((l, listOf vs.toArray nn) :: (44, tabObj ps) :: ex) 20 49 [.ref l, .int n tn] (fun r news' => ∃ ps' ex', Tab 50 4 qD2I ps' ex' ∧ news' = (l, listOf vs.toArray nn) :: (44, tabObj ps') :: ex' ∧ ∃ t, r = .int (unD (2 ^ n.toNat) ns) t) := by
  unfold CallOk
  intro dp un gd cn cs a' ccd cl outer A₀ base h₀ L m s Q E B F X N T hk hdp hun hret
  refine wpAny_call ?_
  (refine' enterC_K ?k1 ?k2 ?k3 ?k4 ?k5 ?kA ?kF ?kK ?k6 ?k7 ?k8 ?k9 ?kB ?kD ?_ ?c2 ?c3 ?c4; (case kA => exact rfl); (case kF => exact rfl); (case kK => assumption); (case k1 => k_asm); (case k2 => k_asm); (case k3 => k_asm); (case k4 => k_asm); (case k5 => k_asm); (case k6 => k_is); (case k7 => k_is); (case k8 => first | exact room0 hdp | ktr_room); (case k9 => exact BindsTo.of_eq rfl); (case kB => exact rfl); (case kD => decide +kernel); (case c2 => exact rfl); (case c3 => exact rfl); (case c4 => exact rfl); k_whole; intro g' L' h' tk' cells' G' FG' F' N' Y' B' X' T' l1)
  have ch := codeHd_of_K (c := 48) (P := 44) X' (by kernel_rfl)
  have hexB : ∀ q ∈ ex, @LT.lt Nat _ q.1 L' := fun q hq => l1 q (.tail _ (.tail _ hq))
  k_lt l1
  have hY := CellsAre.three Y'
  refine hideG ?_; intro HP back; obtain ⟨o3, o2, o1, hE, d3, d2, d1⟩ := hY; refine back ?_; clear back HP
  subst hE; clear Y'
  simp only [List.cons_append, List.nil_append] at N'
  dsimp only
  replace d1 : o1.data = .cell (some (.ref l)) := d1
  replace d2 : o2.data = .cell (some (.int n tn)) := d2
  (try k_fold)
  walk1
  (k_dflt (refine' nestDef_K ?zzd0 ?zzk0 ?zza0 ?_; (case zzd0 => exact rfl); (case zzk0 => exact rfl); (case zza0 => exact rfl)))
  with_reducible rename Fr _ _ _ _ => F7
  with_reducible rename News _ _ _ _ => N7
  refine nestT (own := [_, _, _, _]) (B := L') F7 N7 T' ch rfl ht (by k_all) hexB rfl ?_
  intro f c oc vs' t' ct dc h8 tk8 F8 N8 hoc hvs hcc lo lP lc
  simp only [List.cons_append, List.nil_append] at N8
  k_lt lo
  have c1 : @Ne Nat c (L' + 1) := by rcases hcc with h | h <;> first | omega | (simp only [AllLt] at h; omega)
  have c2 : @Ne Nat c (L' + 1 + 1) := by rcases hcc with h | h <;> first | omega | (simp only [AllLt] at h; omega)
  have c3 : @Ne Nat c (L' + 1 + 1 + 1) := by rcases hcc with h | h <;> first | omega | (simp only [AllLt] at h; omega)
  (k_dflt (refine' storeX_C ?zzF ?zzN ?zzc ?zzU ?zzd ?_ ?zza ?zzb; (case zza => rfl); (case zzb => rfl); (case zzF => exact F8); (case zzN => exact N8); (case zzc => rfl); (case zzU => k_updF); (case zzd => k_asm); k_whole))
  intro h9 o9 F9 N9 d9; (try dsimp only at N9)
  clear F8 N8 F7 N7
  obtain ⟨led, hled⟩ := ledOf N9
  have key : ∀ (k : Nat) (Lo Hi : Int) (t1 t2 : Tok), 0 ≤ Lo → Lo < Hi → Hi ≤ ns.length → Hi - Lo ≤ k → CallOk w mean mg mb led (k + 1) f [.int Lo t1, .int Hi t2] (fun r news' => news' = led ∧ ∃ t, r = .int (unD (2 ^ n.toNat) ((ns.drop Lo.toNat).take (Hi - Lo).toNat)) t) := by
    clear F9 N9 G' B' X' T' FG' hret B F X N T hdp hun hk
    intro k
    induction k with
    | zero => intro Lo Hi t1 t2 h1 h2 h3 h4; omega
    | succ k ih =>
      intro Lo Hi t1 t2 h1 h2 h3 h4
      unfold CallOk
      intro dp un gd cn cs a' ccd cl outer A₀ base h₀ L m s Q E B F X N T hk hdp hun hret
      subst hled
      refine wpAny_call ?_
      (refine' enter_of ?k1 ?k2 ?k3 ?k4 ?k5 ?kA ?kF ?kK ?k6 ?kd ?k7 ?k8 ?k9 ?kB ?_ ?c2 ?c3 ?c4 ?c5; (case kA => exact rfl); (case kF => exact rfl); (case kK => assumption); (case k1 => k_asm); (case k2 => k_asm); (case k3 => exact X); (case k4 => exact N); (case k5 => k_asm); (case k6 => exact N.get (by k_mem)); (case kd => exact rfl); (case k7 => exact codeRec_news N (by k_mem) hoc hvs); (case k8 => first | exact room0 hdp | ktr_room); (case k9 => exact BindsTo.of_eq rfl); (case c5 => decide); (case kB => exact locs rfl); (case c2 => exact rfl); (case c3 => exact rfl); (case c4 => exact rfl); k_whole; intro g L' h' G FG F' N' B' X' T' l1; (try dsimp only); (try k_fold))
      have e2 : ((2 : Int) ^ Int.toNat 1) = 2 := rfl
      have hm := Int.fdiv_eq_ediv_of_nonneg (Lo + Hi) (b := 2 ^ Int.toNat 1) (by decide)
      k_steps
      · with_reducible rename Fr g _ _ _ => Fg
        with_reducible rename News g _ _ _ => Ng
        have heq : Lo + 1 = Hi := by assumption
        refine hret _ _ _ _ (by k_asm) (by k_asm) (G.back Fg Ng) ⟨rfl, _, congrArg (fun x => Value.int x _) (unD_one heq h1 h3).symm⟩
      · with_reducible rename Fr _ _ _ _ => F8
        with_reducible rename News _ _ _ _ => N8
        have hne : Lo + 1 ≠ Hi := by assumption
        generalize hmid : (Lo + Hi).fdiv (2 ^ Int.toNat 1) = mid at *
        rw [e2] at hm
        refine CallOk.use (ih _ _ _ _ (by omega) (by omega) (by omega) (by omega)) B' F8 X' N8 T' rfl (by first | exact room1 hdp rfl | ktr_room) (by first | exact units1 hun rfl | ktr_units) ?_
        intro r1 nw1 h1' tk1 F1 N1 K1 hr1
        obtain ⟨rfl, t1', rfl⟩ := hr1
        have b1 := unD_bits hn hn2 (xs := (ns.drop mid.toNat).take (Hi - mid).toNat) (len_td _ _ _ hl2) (fun d hd => hB d (mem_td hd))
        have sh0 : 0 ≤ (mid - Lo) * n := Int.mul_nonneg (by omega) (by omega)
        have sh1 : (mid - Lo) * n ≤ 2000 := le_mul_bound (by omega) (by omega) (by omega) (by omega)
        have sh2 : ((Builtin.Int.intBits (unD (2 ^ n.toNat) ((ns.drop mid.toNat).take (Hi - mid).toNat)) : Nat) : Int) + (mid - Lo) * n ≤ 2 ^ 27 := by omega
        dsimp only
        k_steps
        with_reducible rename Fr _ _ _ _ => F2
        with_reducible rename News _ _ _ _ => N2
        refine CallOk.use (ih _ _ _ _ (by omega) (by omega) (by omega) (by omega)) B' F2 X' N2 T' rfl (by first | exact room1 hdp rfl | ktr_room) (by first | exact units1 hun rfl | ktr_units) ?_
        intro r2 nw2 h2' tk2 F3 N3 K2 hr2
        obtain ⟨rfl, t2', rfl⟩ := hr2
        dsimp only
        k_steps
        refine hret _ _ _ _ (by k_asm) (by k_asm) (G.back F3 N3) ⟨rfl, _, congrArg (fun x => Value.int x _) (unD_split hn h1 (show Lo < mid by omega) (show mid < Hi by omega) h3)⟩
  subst hled
  k_steps
  refine CallOk.use (key ns.length 0 ns.length _ _ (by omega) (by omega) (by omega) (by omega)) B' F9 X' N9 T' rfl (by first | exact room1 hdp rfl | ktr_room) (by first | exact units1 hun rfl | ktr_units) ?_
  intro r1 nw1 h1' tk1 F1 N1 K1 hr1
  obtain ⟨rfl, t1', rfl⟩ := hr1
  dsimp only
  k_steps
  with_reducible rename Fr h₀ _ _ _ => Fe
  with_reducible rename News h₀ _ _ _ => Ne
  refine hret _ _ _ _ Fe (newsSub (news := [(l, listOf vs.toArray nn), (44, tabObj #[rawInt (50 : Nat), rawInt (4 : Nat), .ref c]), (c, oc)]) Ne (by kcj_all)) (G'.back F1 (newsSub N1 (by kcj_all))) ⟨_, _, Tab.some hoc hvs, rfl, _, congrArg (fun x => Value.int (unD (2 ^ n.toNat) x) _) (td_all ns)⟩
theorem d2i_nil (w : World) (mean : ExcName → Option Value) (mg mb : Str → Option Value) (l : Addr) (vs : List Value) (ns : List Int) (nn : Nat) (n : Int) (tn : Tok) {ps : Array Value} {ex : Ledg} (ht : Tab 50 4 qD2I ps ex) (hI : IntsAre vs ns) (ns0 : ns = []) (hl2 : ns.length < 10) (hl : ¬ 0 < ns.length) (h44 : l ≠ 44) :
    CallOk w mean mg mb ((l, listOf vs.toArray nn) :: (44, tabObj ps) :: ex) 20 49 [.ref l, .int n tn] (fun r news' => ∃ ps' ex', Tab 50 4 qD2I ps' ex' ∧ news' = (l, listOf vs.toArray nn) :: (44, tabObj ps') :: ex' ∧ ∃ t, r = .int (unD (2 ^ n.toNat) ns) t) := by
  unfold CallOk
  intro dp un gd cn cs a' ccd cl outer A₀ base h₀ L m s Q E B F X N T hk hdp hun hret
  refine wpAny_call ?_
  (refine' enterC_K ?k1 ?k2 ?k3 ?k4 ?k5 ?kA ?kF ?kK ?k6 ?k7 ?k8 ?k9 ?kB ?kD ?_ ?c2 ?c3 ?c4; (case kA => exact rfl); (case kF => exact rfl); (case kK => assumption); (case k1 => k_asm); (case k2 => k_asm); (case k3 => k_asm); (case k4 => k_asm); (case k5 => k_asm); (case k6 => k_is); (case k7 => k_is); (case k8 => first | exact room0 hdp | ktr_room); (case k9 => exact BindsTo.of_eq rfl); (case kB => exact rfl); (case kD => decide +kernel); (case c2 => exact rfl); (case c3 => exact rfl); (case c4 => exact rfl); k_whole; intro g' L' h' tk' cells' G' FG' F' N' Y' B' X' T' l1)
  have ch := codeHd_of_K (c := 48) (P := 44) X' (by kernel_rfl)
  have hexB : ∀ q ∈ ex, @LT.lt Nat _ q.1 L' := fun q hq => l1 q (.tail _ (.tail _ hq))
  k_lt l1
  have hY := CellsAre.three Y'
  refine hideG ?_; intro HP back; obtain ⟨o3, o2, o1, hE, d3, d2, d1⟩ := hY; refine back ?_; clear back HP
  subst hE; clear Y'
  simp only [List.cons_append, List.nil_append] at N'
  dsimp only
  replace d1 : o1.data = .cell (some (.ref l)) := d1
  replace d2 : o2.data = .cell (some (.int n tn)) := d2
  (try k_fold)
  walk1
  (k_dflt (refine' nestDef_K ?zzd0 ?zzk0 ?zza0 ?_; (case zzd0 => exact rfl); (case zzk0 => exact rfl); (case zza0 => exact rfl)))
  with_reducible rename Fr _ _ _ _ => F7
  with_reducible rename News _ _ _ _ => N7
  refine nestT (own := [_, _, _, _]) (B := L') F7 N7 T' ch rfl ht (by k_all) hexB rfl ?_
  intro f c oc vs' t' ct dc h8 tk8 F8 N8 hoc hvs hcc lo lP lc
  simp only [List.cons_append, List.nil_append] at N8
  k_lt lo
  have c1 : @Ne Nat c (L' + 1) := by rcases hcc with h | h <;> first | omega | (simp only [AllLt] at h; omega)
  have c2 : @Ne Nat c (L' + 1 + 1) := by rcases hcc with h | h <;> first | omega | (simp only [AllLt] at h; omega)
  have c3 : @Ne Nat c (L' + 1 + 1 + 1) := by rcases hcc with h | h <;> first | omega | (simp only [AllLt] at h; omega)
  (k_dflt (refine' storeX_C ?zzF ?zzN ?zzc ?zzU ?zzd ?_ ?zza ?zzb; (case zza => rfl); (case zzb => rfl); (case zzF => exact F8); (case zzN => exact N8); (case zzc => rfl); (case zzU => k_updF); (case zzd => k_asm); k_whole))
  intro h9 o9 F9 N9 d9; (try dsimp only at N9)
  clear F8 N8 F7 N7
  k_steps
  with_reducible rename Fr h₀ _ _ _ => Fe
  with_reducible rename News h₀ _ _ _ => Ne
  refine hret _ _ _ _ Fe (newsSub (news := [(l, listOf vs.toArray nn), (44, tabObj #[rawInt (50 : Nat), rawInt (4 : Nat), .ref c]), (c, oc)]) Ne (by kcj_all)) (G'.back F9 (newsSub N9 (by kcj_all))) ⟨_, _, Tab.some hoc hvs, rfl, _, congrArg (fun x => Value.int x _) (by rw [ns0]; rfl)⟩
theorem d2i_any (w : World) (mean : ExcName → Option Value) (mg mb : Str → Option Value) (l : Addr) (vs : List Value) (ns : List Int) (nn : Nat) (n : Int) (tn : Tok) {ps : Array Value} {ex : Ledg} (ht : Tab 50 4 qD2I ps ex) (hn : 0 < n) (hn2 : n < 200) (hI : IntsAre vs ns) (hl2 : ns.length < 10) (h44 : l ≠ 44) (hB : ∀ d ∈ ns, 0 ≤ d ∧ d < 2 ^ 1000) :
    CallOk w mean mg mb ((l, listOf vs.toArray nn) :: (44, tabObj ps) :: ex) 20 49 [.ref l, .int n tn] (fun r news' => ∃ ps' ex', Tab 50 4 qD2I ps' ex' ∧ news' = (l, listOf vs.toArray nn) :: (44, tabObj ps') :: ex' ∧ ∃ t, r = .int (unD (2 ^ n.toNat) ns) t) := by
  by_cases hl : 0 < ns.length
  · exact d2i w mean mg mb l vs ns nn n tn ht hn hn2 hI hl hl2 h44 hB
  · exact d2i_nil w mean mg mb l vs ns nn n tn ht hI (List.eq_nil_of_length_eq_zero (by omega)) hl2 hl h44
end Mine
end
-- BCI2D
section
open PySem PySem.W PyProof.Rows PySem.Calls
set_option maxRecDepth 100000
set_option maxHeartbeats 8000000
namespace Mine
theorem off3 : True := by
  w_top off
  k_with_none
  exact trivial
theorem fill5 : (Challenge.rw_re0104_02, hd.heap_1) = (Challenge.rw_re0104_02, hd.heap_1) := by
  k_fill
  rfl
theorem lineCI2D1 : True := by
  k_with "binaryOp LShift int int" => (refine lshift_int (by assumption) (by assumption) ?_)
  exact trivial
theorem lineCI2D2 : True := by
  k_with "binaryOp LShift int int" => (refine lshift_int (by assumption) (by assumption) ?_)
  exact trivial
theorem lineCI2D3 : True := by
  k_with "binaryOp RShift int int" => (refine rshift_int (by assumption) ?_)
  exact trivial
abbrev qI2D : Str := qualnameIn (envOfC (Str.ofString "_int2digits") default 0 42 (Value.ref 41)) (Str.ofString "inner") (Str.ofString "inner")
theorem i2d_room {x m n : Int} (h0 : 0 ≤ x) (h1 : x < 2 ^ 3000) (h2 : 0 ≤ m) (h3 : m ≤ 10) (h4 : 0 ≤ n) (h5 : n ≤ 200) : ((Builtin.Int.intBits (x.fdiv (2 ^ (m * n).toNat)) : Nat) : Int) + m * n ≤ 2 ^ 27 := by
  have hb : Builtin.Int.intBits x ≤ 3000 := bits_of_lt h0 h1
  have hb2 : Builtin.Int.intBits (x.fdiv (2 ^ (m * n).toNat)) ≤ 3000 := intBits_fdiv_le hb
  have := le_mul_bound h2 h3 h4 h5
  omega
theorem headOf {h₀ h : Heap} {L D : Addr} {o : Obj} {rest : Ledg} (_ : News h₀ L h ((D, o) :: rest)) : ∃ D', D' = D := ⟨D, rfl⟩
theorem i2d (w : World) (mean : ExcName → Option Value) (mg mb : Str → Option Value) (a n : Int) (ta tn : Tok) {ps : Array Value} {ex : Ledg} (ht : Tab 35 4 qI2D ps ex) (d : Nat) (hn : 0 < n) (hn2 : n < 200) (ha : 0 < a) (hd : ((((Builtin.Int.intBits a) : Nat) : Int) + n - 1).fdiv n = d) (hd0 : 0 < d) (hd2 : d < 10) (hax : a < 2 ^ 3000) :
    CallOk w mean mg mb ((37, tabObj ps) :: ex) 20 42 [.int a ta, .int n tn] (fun r news' => ∃ ps' ex' D vs nn, Tab 35 4 qI2D ps' ex' ∧ news' = (D, listOf vs.toArray nn) :: (37, tabObj ps') :: ex' ∧ r = .ref D ∧ IntsAre vs (digs (2 ^ n.toNat) d a)) := by
  unfold CallOk
  intro dp un gd cn cs a' ccd cl outer A₀ base h₀ L m s Q E B F X N T hk hdp hun hret
  refine wpAny_call ?_
  (refine' enterC_K ?k1 ?k2 ?k3 ?k4 ?k5 ?kA ?kF ?kK ?k6 ?k7 ?k8 ?k9 ?kB ?kD ?_ ?c2 ?c3 ?c4; (case kA => exact rfl); (case kF => exact rfl); (case kK => assumption); (case k1 => k_asm); (case k2 => k_asm); (case k3 => k_asm); (case k4 => k_asm); (case k5 => k_asm); (case k6 => k_is); (case k7 => k_is); (case k8 => first | exact room0 hdp | ktr_room); (case k9 => exact BindsTo.of_eq rfl); (case kB => exact rfl); (case kD => decide +kernel); (case c2 => exact rfl); (case c3 => exact rfl); (case c4 => exact rfl); k_whole; intro g' L' h' tk' cells' G' FG' F' N' Y' B' X' T' l1)
  have ch := codeHd_of_K (c := 41) (P := 37) X' (by kernel_rfl)
  have hexB : ∀ q ∈ ex, @LT.lt Nat _ q.1 L' := fun q hq => l1 q (.tail _ hq)
  k_lt l1
  have hY := CellsAre.three Y'
  refine hideG ?_; intro HP back; obtain ⟨o3, o2, o1, hE, d3, d2, d1⟩ := hY; refine back ?_; clear back HP
  subst hE; clear Y'
  simp only [List.cons_append, List.nil_append] at N'
  dsimp only
  replace d1 : o1.data = .cell (some (.int n tn)) := d1
  replace d2 : o2.data = .cell none := d2
  replace d3 : o3.data = .cell none := d3
  (try k_fold)
  repeat' (first | (k_unfold; (try dsimp only)) | ((fail_if_success (with_reducible show wpAny _ _ (storeName _ _ _) _ _ _)); walk1))
  have hx2 : ∀ q ∈ ex, q.1 ≠ L' + 1 + 1 := fun q hq => Nat.ne_of_lt (Nat.lt_trans (hexB q hq) (Nat.lt_succ_of_lt (Nat.lt_succ_self _)))
  (k_dflt (refine' storeX_C ?zzF ?zzN ?zzc ?zzU ?zzd ?_ ?zza ?zzb; (case zza => rfl); (case zzb => rfl); (case zzF => k_asm); (case zzN => k_asm); (case zzc => rfl); (case zzU => (first | (refine' UpdF.head ?yh; (case yh => exact List.forall_mem_cons.mpr ⟨by k_ne, List.forall_mem_cons.mpr ⟨by k_ne, hx2⟩⟩)) | (refine' UpdF.tail ?ya3 ?yb3; (case ya3 => k_ne); (case yb3 => (first | (refine' UpdF.head ?yh; (case yh => exact List.forall_mem_cons.mpr ⟨by k_ne, List.forall_mem_cons.mpr ⟨by k_ne, hx2⟩⟩)) | (refine' UpdF.tail ?ya2 ?yb2; (case ya2 => k_ne); (case yb2 => (first | (refine' UpdF.head ?yh; (case yh => exact List.forall_mem_cons.mpr ⟨by k_ne, List.forall_mem_cons.mpr ⟨by k_ne, hx2⟩⟩)) | (refine' UpdF.tail ?ya1 ?yb1; (case ya1 => k_ne); (case yb1 => (refine' UpdF.head ?yh; (case yh => exact List.forall_mem_cons.mpr ⟨by k_ne, List.forall_mem_cons.mpr ⟨by k_ne, hx2⟩⟩)))))))))))); (case zzd => k_asm); k_whole))
  intro hz oz Fz Nz dz; (try dsimp only at Nz)
  repeat' (first | (k_unfold; (try dsimp only)) | ((fail_if_success (with_reducible show wpAny _ _ (exec (Stmt.FunctionDef _ _ _ _ _ _ _ _ _ _) _) _ _ _)); walk1))
  with_reducible rename Fr _ _ _ _ => F7
  with_reducible rename News _ _ _ _ => N7
  with_reducible rename IntsAre _ _ => hI0
  obtain ⟨D, hD⟩ := headOf N7
  subst hD
  simp only [hd] at *
  generalize hV0 : (List.replicate (Int.toNat (d : Int)) [Value.int 0 tk']).flatten = vs0 at *
  generalize hNs0 : (List.replicate (Int.toNat (d : Int)) [(0 : Int)]).flatten = ns0 at *
  rename ns0.length = _ => e1
  subst e1
  have hns0 : ns0.length = d := by omega
  clear hV0
  (k_dflt (refine' nestDef_K ?zzd0 ?zzk0 ?zza0 ?_; (case zzd0 => exact rfl); (case zzk0 => exact rfl); (case zza0 => exact rfl)))
  with_reducible rename Fr _ _ _ _ => F7
  with_reducible rename News _ _ _ _ => N7
  refine nestT (own := [_, _, _, _, _]) (B := L') F7 N7 T' ch rfl ht (by k_all) hexB rfl ?_
  intro f c oc vs' t' ct dc h8 tk8 F8 N8 hoc hvs hcc lo lP lc
  simp only [List.cons_append, List.nil_append] at N8
  k_lt lo
  have c1 : @Ne Nat c (L' + 1) := by rcases hcc with h | h <;> first | omega | (simp only [AllLt] at h; omega)
  have c2 : @Ne Nat c (L' + 1 + 1) := by rcases hcc with h | h <;> first | omega | (simp only [AllLt] at h; omega)
  have c4 : @Ne Nat c D := by rcases hcc with h | h <;> first | omega | (simp only [AllLt] at h; omega)
  have c3 : @Ne Nat c (L' + 1 + 1 + 1) := by rcases hcc with h | h <;> first | omega | (simp only [AllLt] at h; omega)
  (k_dflt (refine' storeX_C ?zzF ?zzN ?zzc ?zzU ?zzd ?_ ?zza ?zzb; (case zza => rfl); (case zzb => rfl); (case zzF => exact F8); (case zzN => exact N8); (case zzc => rfl); (case zzU => k_updF); (case zzd => k_asm); k_whole))
  intro h9 o9 F9 N9 d9; (try dsimp only at N9)
  clear F8 N8 F7 N7
  refine' ledCut (D := D) ?zzN ?zzU ?_; (case zzN => exact N9); (case zzU => k_updF)
  intro led hled
  have key : ∀ (k : Nat) (x Lo Hi : Int) (t0 t1 t2 : Tok) (vs : List Value) (ns : List Int) (nn : Nat), IntsAre vs ns → ns.length = d → 0 ≤ Lo → Lo < Hi → Hi ≤ d → Hi - Lo ≤ k → 0 ≤ x → x < 2 ^ 3000 → CallOk w mean mg mb (led (listOf vs.toArray nn)) (k + 1) f [.int x t0, .int Lo t1, .int Hi t2] (fun r news' => r = .none ∧ ∃ vs' nn', IntsAre vs' (put ns Lo.toNat Hi.toNat (digs (2 ^ n.toNat) (Hi - Lo).toNat x)) ∧ news' = led (listOf vs'.toArray nn')) := by
    clear F9 N9 G' B' X' T' FG' hret B F X N T hdp hun hk
    intro k
    induction k with
    | zero => intro x Lo Hi t0 t1 t2 vs ns nn hI hlen h1 h2 h3 h4; omega
    | succ k ih =>
      intro x Lo Hi t0 t1 t2 vs ns nn hI hlen h1 h2 h3 h4 hx0 hx1
      unfold CallOk
      intro dp un gd cn cs a' ccd cl outer A₀ base h₀ L m s Q E B F X N T hk hdp hun hret
      subst hled
      dsimp only at N hret ih
      refine wpAny_call ?_
      (refine' enter_of ?k1 ?k2 ?k3 ?k4 ?k5 ?kA ?kF ?kK ?k6 ?kd ?k7 ?k8 ?k9 ?kB ?_ ?c2 ?c3 ?c4 ?c5; (case kA => exact rfl); (case kF => exact rfl); (case kK => assumption); (case k1 => k_asm); (case k2 => k_asm); (case k3 => exact X); (case k4 => exact N); (case k5 => k_asm); (case k6 => exact N.get (by k_mem)); (case kd => exact rfl); (case k7 => exact codeRec_news N (by k_mem) hoc hvs); (case k8 => first | exact room0 hdp | ktr_room); (case k9 => exact BindsTo.of_eq rfl); (case c5 => decide); (case kB => exact locs rfl); (case c2 => exact rfl); (case c3 => exact rfl); (case c4 => exact rfl); k_whole; intro g L' h' G FG F' N' B' X' T' l1; (try dsimp only); (try k_fold))
      have e2 : ((2 : Int) ^ Int.toNat 1) = 2 := rfl
      have hm := Int.fdiv_eq_ediv_of_nonneg (Lo + Hi) (b := 2 ^ Int.toNat 1) (by decide)
      by_cases hc : Lo + 1 = Hi
      · k_steps
        all_goals first | (exfalso; exact (by assumption : Lo + 1 ≠ Hi) hc) | skip
        with_reducible rename Fr g _ _ _ => Fg
        with_reducible rename News g _ _ _ => Ng
        refine hret _ _ _ _ (by k_asm) (by k_asm) (G.back Fg Ng) ⟨rfl, _, _, ?_, rfl⟩
        rw [show (Hi - Lo).toNat = 1 by omega, digs, ← put_one (by omega) (by omega)]
        assumption
      · have sh0 : 0 ≤ ((Lo + Hi).fdiv (2 ^ Int.toNat 1) - Lo) * n := Int.mul_nonneg (by rw [e2] at hm ⊢; omega) (by omega)
        have sh2 : ((Builtin.Int.intBits (x.fdiv (2 ^ (((Lo + Hi).fdiv (2 ^ Int.toNat 1) - Lo) * n).toNat)) : Nat) : Int) + ((Lo + Hi).fdiv (2 ^ Int.toNat 1) - Lo) * n ≤ 2 ^ 27 := i2d_room hx0 hx1 (by rw [e2] at hm ⊢; omega) (by rw [e2] at hm ⊢; omega) (by omega) (by omega)
        k_steps
        all_goals first | (exfalso; exact hc (by assumption)) | skip
        with_reducible rename Fr _ _ _ _ => F8
        with_reducible rename News _ _ _ _ => N8
        generalize hmid : (Lo + Hi).fdiv (2 ^ Int.toNat 1) = mid at *
        rw [e2] at hm
        rw [xor_low _ hx0]
        have lo1 := emod_pow_lt (k := ((mid - Lo) * n).toNat) hx0 hx1
        have up1 := fdiv_pow_lt (k := ((mid - Lo) * n).toNat) hx0 hx1
        have a1 : Lo < mid := by omega
        have a2 : mid < Hi := by omega
        refine CallOk.use (ih _ Lo mid _ _ _ vs ns nn hI hlen h1 a1 (by omega) (by omega) lo1.1 lo1.2) B' F8 X' N8 T' rfl (by first | exact room1 hdp rfl | ktr_room) (by first | exact units1 hun rfl | ktr_units) ?_
        intro r1 nw1 h1' tk1 F1 N1 K1 hr1
        refine hideG ?_; intro HP back; obtain ⟨rfl, vs1, nn1, hI1, rfl⟩ := hr1; refine back ?_; clear back HP
        have hlen1 : (put ns Lo.toNat mid.toNat (digs (2 ^ n.toNat) (mid - Lo).toNat (x % 2 ^ ((mid - Lo) * n).toNat))).length = d := by
          rw [put_length (by omega) (by omega) (by rw [digs_length]; omega)]; exact hlen
        clear F8 N8
        dsimp only
        k_steps
        with_reducible rename Fr _ _ _ _ => F2
        with_reducible rename News _ _ _ _ => N2
        refine CallOk.use (ih _ mid Hi _ _ _ vs1 _ nn1 hI1 hlen1 (by omega) a2 h3 (by omega) up1.1 up1.2) B' F2 X' N2 T' rfl (by first | exact room1 hdp rfl | ktr_room) (by first | exact units1 hun rfl | ktr_units) ?_
        intro r2 nw2 h2' tk2 F3 N3 K2 hr2
        refine hideG ?_; intro HP back; obtain ⟨rfl, vs2, nn2, hI2, rfl⟩ := hr2; refine back ?_; clear back HP
        dsimp only
        k_steps
        refine hret _ _ _ _ (by k_asm) (by k_asm) (G.back F3 N3) ⟨rfl, vs2, nn2, ?_, rfl⟩
        rw [← i2d_join hn a1 a2, ← put_put (ns := ns) (Lo := Lo.toNat) (mid := mid.toNat) (Hi := Hi.toNat) (by omega) (by omega) (by omega) (by rw [digs_length]; omega)]
        exact hI2
  subst hled
  dsimp only at key
  k_steps
  all_goals first | (exfalso; have ha0 : a = 0 := (by assumption); omega) | skip
  with_reducible rename Fr _ _ _ _ => F2
  with_reducible rename News _ _ _ _ => N2
  refine CallOk.use (key d a 0 _ _ _ _ vs0 ns0 0 hI0 hns0 (by omega) (by omega) (by omega) (by omega) (by omega) hax) B' F2 X' N2 T' rfl (by first | exact room1 hdp rfl | ktr_room) (by first | exact units1 hun rfl | ktr_units) ?_
  intro r1 nw1 h1' tk1 F1 N1 K1 hr1
  refine hideG ?_; intro HP back; obtain ⟨rfl, vs1, nn1, hI1, rfl⟩ := hr1; refine back ?_; clear back HP
  dsimp only
  (try dsimp only at N1)
  k_steps
  with_reducible rename Fr h₀ _ _ _ => Fe
  with_reducible rename News h₀ _ _ _ => Ne
  rw [Int.toNat_zero, Int.sub_zero, Int.toNat_natCast, put_all, hns0] at hI1
  refine hret _ _ _ _ Fe (newsSub (news := [(D, listOf vs1.toArray nn1), (37, tabObj #[rawInt (35 : Nat), rawInt (4 : Nat), .ref c]), (c, oc)]) Ne (by kcj_all)) (G'.back F1 (newsSub N1 (by kcj_all))) ⟨_, _, D, vs1, nn1, Tab.some hoc hvs, rfl, rfl, hI1⟩
theorem i2d_zero (w : World) (mean : ExcName → Option Value) (mg mb : Str → Option Value) (a n : Int) (ta tn : Tok) {ps : Array Value} {ex : Ledg} (ht : Tab 35 4 qI2D ps ex) (d : Nat) (hn : 0 < n) (hn2 : n < 200) (ha : a = 0) (hd : ((((Builtin.Int.intBits a) : Nat) : Int) + n - 1).fdiv n = d) (hd0 : d = 0) :
    CallOk w mean mg mb ((37, tabObj ps) :: ex) 20 42 [.int a ta, .int n tn] (fun r news' => ∃ ps' ex' D vs nn, Tab 35 4 qI2D ps' ex' ∧ news' = (D, listOf vs.toArray nn) :: (37, tabObj ps') :: ex' ∧ r = .ref D ∧ IntsAre vs []) := by
  unfold CallOk
  intro dp un gd cn cs a' ccd cl outer A₀ base h₀ L m s Q E B F X N T hk hdp hun hret
  refine wpAny_call ?_
  (refine' enterC_K ?k1 ?k2 ?k3 ?k4 ?k5 ?kA ?kF ?kK ?k6 ?k7 ?k8 ?k9 ?kB ?kD ?_ ?c2 ?c3 ?c4; (case kA => exact rfl); (case kF => exact rfl); (case kK => assumption); (case k1 => k_asm); (case k2 => k_asm); (case k3 => k_asm); (case k4 => k_asm); (case k5 => k_asm); (case k6 => k_is); (case k7 => k_is); (case k8 => first | exact room0 hdp | ktr_room); (case k9 => exact BindsTo.of_eq rfl); (case kB => exact rfl); (case kD => decide +kernel); (case c2 => exact rfl); (case c3 => exact rfl); (case c4 => exact rfl); k_whole; intro g' L' h' tk' cells' G' FG' F' N' Y' B' X' T' l1)
  have ch := codeHd_of_K (c := 41) (P := 37) X' (by kernel_rfl)
  have hexB : ∀ q ∈ ex, @LT.lt Nat _ q.1 L' := fun q hq => l1 q (.tail _ hq)
  k_lt l1
  have hY := CellsAre.three Y'
  refine hideG ?_; intro HP back; obtain ⟨o3, o2, o1, hE, d3, d2, d1⟩ := hY; refine back ?_; clear back HP
  subst hE; clear Y'
  simp only [List.cons_append, List.nil_append] at N'
  dsimp only
  replace d1 : o1.data = .cell (some (.int n tn)) := d1
  replace d2 : o2.data = .cell none := d2
  replace d3 : o3.data = .cell none := d3
  (try k_fold)
  repeat' (first | (k_unfold; (try dsimp only)) | ((fail_if_success (with_reducible show wpAny _ _ (storeName _ _ _) _ _ _)); walk1))
  have hx2 : ∀ q ∈ ex, q.1 ≠ L' + 1 + 1 := fun q hq => Nat.ne_of_lt (Nat.lt_trans (hexB q hq) (Nat.lt_succ_of_lt (Nat.lt_succ_self _)))
  (k_dflt (refine' storeX_C ?zzF ?zzN ?zzc ?zzU ?zzd ?_ ?zza ?zzb; (case zza => rfl); (case zzb => rfl); (case zzF => k_asm); (case zzN => k_asm); (case zzc => rfl); (case zzU => (first | (refine' UpdF.head ?yh; (case yh => exact List.forall_mem_cons.mpr ⟨by k_ne, List.forall_mem_cons.mpr ⟨by k_ne, hx2⟩⟩)) | (refine' UpdF.tail ?ya3 ?yb3; (case ya3 => k_ne); (case yb3 => (first | (refine' UpdF.head ?yh; (case yh => exact List.forall_mem_cons.mpr ⟨by k_ne, List.forall_mem_cons.mpr ⟨by k_ne, hx2⟩⟩)) | (refine' UpdF.tail ?ya2 ?yb2; (case ya2 => k_ne); (case yb2 => (first | (refine' UpdF.head ?yh; (case yh => exact List.forall_mem_cons.mpr ⟨by k_ne, List.forall_mem_cons.mpr ⟨by k_ne, hx2⟩⟩)) | (refine' UpdF.tail ?ya1 ?yb1; (case ya1 => k_ne); (case yb1 => (refine' UpdF.head ?yh; (case yh => exact List.forall_mem_cons.mpr ⟨by k_ne, List.forall_mem_cons.mpr ⟨by k_ne, hx2⟩⟩)))))))))))); (case zzd => k_asm); k_whole))
  intro hz oz Fz Nz dz; (try dsimp only at Nz)
  repeat' (first | (k_unfold; (try dsimp only)) | ((fail_if_success (with_reducible show wpAny _ _ (exec (Stmt.FunctionDef _ _ _ _ _ _ _ _ _ _) _) _ _ _)); walk1))
  with_reducible rename Fr _ _ _ _ => F7
  with_reducible rename News _ _ _ _ => N7
  with_reducible rename IntsAre _ _ => hI0
  obtain ⟨D, hD⟩ := headOf N7
  subst hD
  simp only [hd] at *
  generalize hV0 : (List.replicate (Int.toNat (d : Int)) [Value.int 0 tk']).flatten = vs0 at *
  generalize hNs0 : (List.replicate (Int.toNat (d : Int)) [(0 : Int)]).flatten = ns0 at *
  rename ns0.length = _ => e1
  subst e1
  have hns0 : ns0.length = d := by omega
  clear hV0
  (k_dflt (refine' nestDef_K ?zzd0 ?zzk0 ?zza0 ?_; (case zzd0 => exact rfl); (case zzk0 => exact rfl); (case zza0 => exact rfl)))
  with_reducible rename Fr _ _ _ _ => F7
  with_reducible rename News _ _ _ _ => N7
  refine nestT (own := [_, _, _, _, _]) (B := L') F7 N7 T' ch rfl ht (by k_all) hexB rfl ?_
  intro f c oc vs' t' ct dc h8 tk8 F8 N8 hoc hvs hcc lo lP lc
  simp only [List.cons_append, List.nil_append] at N8
  k_lt lo
  have c1 : @Ne Nat c (L' + 1) := by rcases hcc with h | h <;> first | omega | (simp only [AllLt] at h; omega)
  have c2 : @Ne Nat c (L' + 1 + 1) := by rcases hcc with h | h <;> first | omega | (simp only [AllLt] at h; omega)
  have c4 : @Ne Nat c D := by rcases hcc with h | h <;> first | omega | (simp only [AllLt] at h; omega)
  have c3 : @Ne Nat c (L' + 1 + 1 + 1) := by rcases hcc with h | h <;> first | omega | (simp only [AllLt] at h; omega)
  (k_dflt (refine' storeX_C ?zzF ?zzN ?zzc ?zzU ?zzd ?_ ?zza ?zzb; (case zza => rfl); (case zzb => rfl); (case zzF => exact F8); (case zzN => exact N8); (case zzc => rfl); (case zzU => k_updF); (case zzd => k_asm); k_whole))
  intro h9 o9 F9 N9 d9; (try dsimp only at N9)
  clear F8 N8 F7 N7
  k_steps
  all_goals first | (exfalso; have ha0 : a ≠ 0 := (by assumption); omega) | skip
  with_reducible rename Fr h₀ _ _ _ => Fe
  with_reducible rename News h₀ _ _ _ => Ne
  have hz : ns0 = [] := List.eq_nil_of_length_eq_zero (by omega)
  subst hz
  refine hret _ _ _ _ Fe (newsSub (news := [(D, listOf vs0.toArray 0), (37, tabObj #[rawInt (35 : Nat), rawInt (4 : Nat), .ref c]), (c, oc)]) Ne (by kcj_all)) (G'.back F9 (newsSub N9 (by kcj_all))) ⟨_, _, D, vs0, 0, Tab.some hoc hvs, rfl, rfl, hI0⟩
end Mine
end
-- BPre2
section
open PySem PySem.W PyProof.Rows PySem.Calls
set_option maxRecDepth 100000
namespace Mine
theorem Back.news {news rest news' : Ledg} {h h' h₀ : Heap} {L : Addr} (N : News h₀ L h (news ++ rest)) (N' : News h₀ L h' news') (K : Back news h h' news') (hdis : ∀ p ∈ rest, p.1 ∉ news.map (·.1)) : News h₀ L h' (news' ++ rest) := fun p hp => by
  rcases List.mem_append.mp hp with hp | hp
  · exact N' p hp
  · have z := N p (List.mem_append_right _ hp)
    exact ⟨K.keep _ _ z.1 (hdis p hp), z.2⟩
theorem Back.apart {news rest news' : Ledg} {h h' h₀ : Heap} {L : Addr} (N : News h₀ L h (news ++ rest)) (K : Back news h h' news') (hdis : ∀ p ∈ rest, p.1 ∉ news.map (·.1)) : ∀ p ∈ news', ∀ q ∈ rest, p.1 ≠ q.1 := fun p hp q hq e => by
  rcases K.new p hp with k | k
  · have z := (N q (List.mem_append_right _ hq)).1
    rw [← e, k] at z; cases z
  · exact hdis q hq (e ▸ k)
theorem Back.frame {news rest news' : Ledg} {h h' h₀ : Heap} {L : Addr} (N : News h₀ L h (news ++ rest)) (K : Back news h h' news') : Back (news ++ rest) h h' (news' ++ rest) where
  keep := fun b o e n => K.keep b o e (fun q => n (by rw [List.map_append]; exact List.mem_append_left _ q))
  new := fun p hp => by
    rw [List.map_append]
    rcases List.mem_append.mp hp with hp | hp
    · exact (K.new p hp).imp id fun q => List.mem_append_left _ q
    · exact .inr (List.mem_append_right _ (List.mem_map_of_mem hp))
/-- a call told of less than the caller knows -/
theorem CallOk.frame {w : World} {mean : ExcName → Option Value} {mg mb : Str → Option Value} {news : Ledg} {D : Nat} {f : Addr} {args : List Value} {Post : Value → Ledg → Prop} (C : CallOk w mean mg mb news D f args Post) (rest : Ledg)
    (hdis : ∀ h₀ L h, News h₀ L h (news ++ rest) → ∀ p ∈ rest, p.1 ∉ news.map (·.1)) :
    CallOk w mean mg mb (news ++ rest) D f args (fun r nw => ∃ news', nw = news' ++ rest ∧ (∀ p ∈ news', ∀ q ∈ rest, p.1 ≠ q.1) ∧ Post r news') := by
  intro dp un gd cn cs a' ccd cl outer A₀ base h₀ L m s Q E B F X N T hk hdp hun hret
  have hd := hdis _ _ _ N
  refine C.use B F X (fun p hp => N p (List.mem_append_left _ hp)) T hk hdp hun fun r news' h' tk' F' N' K' hp => ?_
  exact hret r (news' ++ rest) h' tk' F' (K'.news N N' hd) (K'.frame N) ⟨news', rfl, K'.apart N hd, hp⟩
/-- the same facts in another order -/
theorem CallOk.perm {w : World} {mean : ExcName → Option Value} {mg mb : Str → Option Value} {news : Ledg} {D : Nat} {f : Addr} {args : List Value} {Post : Value → Ledg → Prop} (C : CallOk w mean mg mb news D f args Post) {news₁ : Ledg}
    (h1 : ∀ p, p ∈ news ↔ p ∈ news₁) : CallOk w mean mg mb news₁ D f args Post := by
  intro dp un gd cn cs a' ccd cl outer A₀ base h₀ L m s Q E B F X N T hk hdp hun hret
  refine C.use B F X (fun p hp => N p ((h1 p).mp hp)) T hk hdp hun fun r news' h' tk' F' N' K' hp => ?_
  have hm : ∀ b, b ∈ news.map (·.1) ↔ b ∈ news₁.map (·.1) := fun b => by
    simp only [List.mem_map]
    exact ⟨fun ⟨p, a, e⟩ => ⟨p, (h1 p).mp a, e⟩, fun ⟨p, a, e⟩ => ⟨p, (h1 p).mpr a, e⟩⟩
  exact hret r news' h' tk' F' N' ⟨fun b o e n => K'.keep b o e (fun q => n ((hm b).mp q)), fun p hp => (K'.new p hp).imp id fun q => (hm _).mp q⟩ hp
theorem CallOk.mono {w : World} {mean : ExcName → Option Value} {mg mb : Str → Option Value} {news : Ledg} {D D' : Nat} {f : Addr} {args : List Value} {Post Post' : Value → Ledg → Prop} (C : CallOk w mean mg mb news D f args Post) (hD : D ≤ D') (hP : ∀ r n, Post r n → Post' r n) :
    CallOk w mean mg mb news D' f args Post' := by
  intro dp un gd cn cs a' ccd cl outer A₀ base h₀ L m s Q E B F X N T hk hdp hun hret
  exact C.use B F X N T hk (by omega) (by omega) fun r news' h' tk' F' N' K' hp => hret r news' h' tk' F' N' K' (hP _ _ hp)
theorem sameObj {h₀ h : Heap} {L : Addr} {news : Ledg} (N : News h₀ L h news) {p q : Addr × Obj} (hp : p ∈ news) (hq : q ∈ news) (e : p.1 = q.1) : p.2 = q.2 := by
  have a := (N p hp).1
  have b := (N q hq).1
  rw [e, b] at a
  exact (Option.some.inj a).symm
/-- the two tables of code objects -/
structure Tabs (t : Ledg) : Prop where
  is : ∃ p1 e1 p2 e2, Tab 35 4 qI2D p1 e1 ∧ Tab 50 4 qD2I p2 e2 ∧ t = ((37, tabObj p1) :: e1) ++ ((44, tabObj p2) :: e2)
theorem Tab.not1 {line col : Nat} {q : Str} {ps : Array Value} {ex : Ledg} (h : Tab line col q ps ex) (x : Str) (t : Tok) : ps[1]? ≠ Option.some (.str x t) := by
  cases h with
  | none => simp
  | some _ _ => simp [rawInt]
theorem Tab.mem {line col : Nat} {q : Str} {ps : Array Value} {ex : Ledg} (h : Tab line col q ps ex) {p : Addr × Obj} (hp : p ∈ ex) : ∃ vs t, p.2.data = .fields vs ∧ vs[1]? = Option.some (.str q t) := by
  cases h with
  | none => cases hp
  | some a b => rw [List.mem_singleton.mp hp]; exact ⟨_, _, a, b⟩
theorem qs_apart : qI2D ≠ qD2I := by decide +kernel
theorem tabs_apart {p1 p2 : Array Value} {e1 e2 : Ledg} (t1 : Tab 35 4 qI2D p1 e1) (t2 : Tab 50 4 qD2I p2 e2) {h₀ h : Heap} {L : Addr} (N : News h₀ L h (((37, tabObj p1) :: e1) ++ ((44, tabObj p2) :: e2))) :
    ∀ p ∈ (44, tabObj p2) :: e2, p.1 ∉ ((37, tabObj p1) :: e1).map (·.1) := by
  intro p hp hm
  obtain ⟨q, hq, e⟩ := List.mem_map.mp hm
  have so := sameObj N (List.mem_append_left _ hq) (List.mem_append_right _ hp) e
  rcases List.mem_cons.mp hp with rfl | hp
  · rcases List.mem_cons.mp hq with rfl | hq
    · exact absurd (show (37 : Nat) = 44 from e) (by decide)
    · obtain ⟨vs, t, a, b⟩ := t1.mem hq
      rw [so] at a
      cases a
      exact t2.not1 _ _ b
  · obtain ⟨vs, t, a, b⟩ := t2.mem hp
    rcases List.mem_cons.mp hq with rfl | hq
    · rw [← so] at a
      cases a
      exact t1.not1 _ _ b
    · obtain ⟨vs', t', a', b'⟩ := t1.mem hq
      rw [so, a] at a'
      cases a'
      rw [b] at b'
      injection b' with b'
      injection b' with b' _
      exact qs_apart b'.symm
end Mine
end
-- BCTab
section
open PySem PySem.W PyProof.Rows PySem.Calls
set_option maxRecDepth 100000
namespace Mine
theorem list_tab_apart {h₀ h : Heap} {L l P : Addr} {items ps : Array Value} {n : Nat} {news : Ledg} (N : News h₀ L h news) (h1 : (l, listOf items n) ∈ news) (h2 : (P, tabObj ps) ∈ news) : l ≠ P := fun e => by
  have := sameObj N h1 h2 e
  cases this
theorem list_code_apart {h₀ h : Heap} {L l : Addr} {items : Array Value} {n : Nat} {news : Ledg} (N : News h₀ L h news) (h1 : (l, listOf items n) ∈ news) {p : Addr × Obj} (h2 : p ∈ news) {vs : Array Value} (hd : p.2.data = .fields vs) : l ≠ p.1 := fun e => by
  have := sameObj N h1 h2 e
  rw [← this] at hd
  cases hd
theorem i2d_t (w : World) (mean : ExcName → Option Value) (mg mb : Str → Option Value) (a n : Int) (ta tn : Tok) {t : Ledg} (ht : Tabs t) (d : Nat) (hn : 0 < n) (hn2 : n < 200) (ha : 0 ≤ a) (hd : ((((Builtin.Int.intBits a) : Nat) : Int) + n - 1).fdiv n = d) (hd0 : 0 < a → 0 < d) (hd1 : a = 0 → d = 0) (hd2 : d < 10) (hax : a < 2 ^ 3000) :
    CallOk w mean mg mb t 20 42 [.int a ta, .int n tn] (fun r nw => ∃ t' D vs nn, Tabs t' ∧ nw = (D, listOf vs.toArray nn) :: t' ∧ r = .ref D ∧ IntsAre vs (digs (2 ^ n.toNat) d a)) := by
  refine hideG ?_; intro HP back; obtain ⟨p1, e1, p2, e2, t1, t2, rfl⟩ := ht.is; refine back ?_; clear back HP
  have C : CallOk w mean mg mb ((37, tabObj p1) :: e1) 20 42 [.int a ta, .int n tn] (fun r news' => ∃ ps' ex' D vs nn, Tab 35 4 qI2D ps' ex' ∧ news' = (D, listOf vs.toArray nn) :: (37, tabObj ps') :: ex' ∧ r = .ref D ∧ IntsAre vs (digs (2 ^ n.toNat) d a)) := by
    by_cases h0 : a = 0
    · have z := hd1 h0
      refine (i2d_zero w mean mg mb a n ta tn t1 d hn hn2 h0 hd z).mono (Nat.le_refl _) ?_
      intro r nw hzz
      refine hideG ?_; intro HP back; obtain ⟨ps', ex', D, vs, nn, q1, q2, q3, q4⟩ := hzz; refine back ?_; clear back HP
      exact ⟨ps', ex', D, vs, nn, q1, q2, q3, by rw [z, digs]; exact q4⟩
    · exact i2d w mean mg mb a n ta tn t1 d hn hn2 (by omega) hd (hd0 (by omega)) hd2 hax
  refine (C.frame ((44, tabObj p2) :: e2) (fun _ _ _ N => tabs_apart t1 t2 N)).mono (Nat.le_refl _) ?_
  intro r nw hzz
  refine hideG ?_; intro HP back; obtain ⟨news', rfl, _, ps', ex', D, vs, nn, q1, rfl, q3, q4⟩ := hzz; refine back ?_; clear back HP
  exact ⟨_, D, vs, nn, ⟨_, _, _, _, q1, t2, rfl⟩, rfl, q3, q4⟩
theorem d2i_t (w : World) (mean : ExcName → Option Value) (mg mb : Str → Option Value) (l : Addr) (vs : List Value) (ns : List Int) (nn : Nat) (n : Int) (tn : Tok) {t : Ledg} (ht : Tabs t) (hn : 0 < n) (hn2 : n < 200) (hI : IntsAre vs ns) (hl2 : ns.length < 10) (hB : ∀ d ∈ ns, 0 ≤ d ∧ d < 2 ^ 1000) :
    CallOk w mean mg mb ((l, listOf vs.toArray nn) :: t) 20 49 [.ref l, .int n tn] (fun r nw => ∃ t', Tabs t' ∧ nw = (l, listOf vs.toArray nn) :: t' ∧ ∃ t, r = .int (unD (2 ^ n.toNat) ns) t) := by
  refine hideG ?_; intro HP back; obtain ⟨p1, e1, p2, e2, t1, t2, rfl⟩ := ht.is; refine back ?_; clear back HP
  intro dp un gd cn cs a' ccd cl outer A₀ base h₀ L m s Q E B F X N T hk hdp hun hret
  have h44 : l ≠ 44 := list_tab_apart N (.head _) (.tail _ (List.mem_append_right _ (.head _)))
  have C := d2i_any w mean mg mb l vs ns nn n tn t2 hn hn2 hI hl2 h44 hB
  have hp : ∀ p, p ∈ ((l, listOf vs.toArray nn) :: (44, tabObj p2) :: e2) ++ ((37, tabObj p1) :: e1) ↔ p ∈ (l, listOf vs.toArray nn) :: (((37, tabObj p1) :: e1) ++ ((44, tabObj p2) :: e2)) := fun p => by
    simp only [List.mem_cons, List.mem_append]
    constructor
    · rintro ((h | h | h) | h | h) <;> simp [h]
    · rintro (h | (h | h) | h | h) <;> simp [h]
  have D := (C.frame ((37, tabObj p1) :: e1) ?_).perm hp
  · refine D.use B F X N T hk hdp hun ?_
    intro r nw h' tk' F' N' K' hzz
    refine hideG ?_; intro HP back; obtain ⟨news', rfl, _, ps', ex', q1, rfl, q3⟩ := hzz; refine back ?_; clear back HP
    refine hret r ((l, listOf vs.toArray nn) :: (((37, tabObj p1) :: e1) ++ ((44, tabObj ps') :: ex'))) h' tk' F' (newsSub N' fun p hp => ?_) ⟨K'.keep, fun p hp => K'.new p ?_⟩ ⟨_, ⟨_, _, _, _, t1, q1, rfl⟩, rfl, q3⟩
    all_goals
      simp only [List.mem_cons, List.mem_append] at hp ⊢
      rcases hp with h | (h | h) | h | h <;> simp [h]
  · intro h₀ L h N p hp hm
    have N' : News h₀ L h (((37, tabObj p1) :: e1) ++ ((44, tabObj p2) :: e2)) := newsSub N fun q hq => by
      simp only [List.mem_cons, List.mem_append] at hq ⊢
      rcases hq with (h | h) | h | h <;> simp [h]
    have ap := tabs_apart t1 t2 N'
    obtain ⟨q, hq, e⟩ := List.mem_map.mp hm
    rcases List.mem_cons.mp hq with rfl | hq
    · rcases List.mem_cons.mp hp with rfl | hp
      · exact list_tab_apart N (.head _) (List.mem_append_right _ (.head _)) e
      · refine hideG ?_; intro HP back; obtain ⟨vs', t', a, _⟩ := t1.mem hp; refine back ?_; clear back HP
        exact list_code_apart N (.head _) (List.mem_append_right _ (.tail _ hp)) a e
    · exact ap q hq (e ▸ List.mem_map_of_mem hp)
end Mine
end
-- Num2
section
open PySem
namespace Mine
def st (B v d : Int) : Int := d + B * v
theorem foldl_st (B : Int) (xs : List Int) : xs.reverse.foldl (st B) 0 = unD B xs := by
  rw [List.foldl_reverse]
  induction xs with
  | nil => rfl
  | cons d r ih => rw [List.foldr_cons, ih, st, unD]
theorem unD_snoc (B q : Int) (qs : List Int) : unD B (qs ++ [q]).reverse = q + B * unD B qs.reverse := by
  rw [List.reverse_append, List.reverse_singleton, List.singleton_append, unD]
/-- one turn of the long division -/
theorem div_turn {B b v d : Int} (hB : 0 < B) (hb : 0 < b) (hd0 : 0 ≤ d) (hd1 : d < B) :
    ((v % b) * B + d).fdiv b + B * (v / b) = st B v d / b ∧ ((v % b) * B + d).fmod b = st B v d % b ∧ 0 ≤ ((v % b) * B + d).fdiv b ∧ ((v % b) * B + d).fdiv b < B := by
  have hr0 := Int.emod_nonneg v (Int.ne_of_gt hb)
  have hr1 := Int.emod_lt_of_pos v hb
  have e : st B v d = (v % b * B + d) + b * (B * (v / b)) := by
    have hv := Int.emod_add_mul_ediv v b
    unfold st
    have : B * v = v % b * B + b * (B * (v / b)) := by
      have h2 : B * (v % b + b * (v / b)) = B * v := by rw [hv]
      rw [Int.mul_add] at h2
      rw [← h2, Int.mul_comm B (v % b), ← Int.mul_assoc B b, Int.mul_comm B b, Int.mul_assoc]
    omega
  rw [Int.fdiv_eq_ediv_of_nonneg _ (Int.le_of_lt hb), Int.fmod_eq_emod_of_nonneg _ (Int.le_of_lt hb), e]
  have hx0 : 0 ≤ v % b * B := Int.mul_nonneg hr0 (Int.le_of_lt hB)
  have hx1 : v % b * B ≤ (b - 1) * B := Int.mul_le_mul_of_nonneg_right (by omega) (Int.le_of_lt hB)
  refine ⟨?_, ?_, Int.ediv_nonneg (by omega) (Int.le_of_lt hb), Int.ediv_lt_of_lt_mul hb ?_⟩
  · rw [Int.add_mul_ediv_left _ _ (Int.ne_of_gt hb)]
  · rw [Int.add_mul_emod_self_left]
  · rw [Int.sub_mul, Int.one_mul] at hx1
    rw [Int.mul_comm B b]; omega
theorem div_bits {n : Nat} {b R d : Int} (hn : n < 200) (hb0 : 0 < b) (hb : b ≤ 2 ^ n) (hR0 : 0 ≤ R) (hR : R < b) (hd0 : 0 ≤ d) (hd : d < 2 ^ n) : ((Builtin.Int.intBits (R * 2 ^ n + d) : Nat) : Int) - (n : Int) ≤ 4000 := by
  have hp : (0 : Int) < 2 ^ n := Int.pow_pos (by decide)
  have h1 : R * 2 ^ n ≤ (2 ^ n - 1) * 2 ^ n := Int.mul_le_mul_of_nonneg_right (by omega) (Int.le_of_lt hp)
  have h0 : 0 ≤ R * 2 ^ n := Int.mul_nonneg hR0 (Int.le_of_lt hp)
  rw [Int.sub_mul, Int.one_mul] at h1
  have h2 : R * 2 ^ n + d < 2 ^ n * 2 ^ n := by omega
  have h3 : ((2 : Int) ^ n) * 2 ^ n = 2 ^ (n + n) := by rw [Int.pow_add]
  rw [h3] at h2
  have := bits_of_lt (k := n + n) (x := R * 2 ^ n + d) (by omega) h2
  omega
theorem lt_pow_bits {b : Int} (hb : 0 ≤ b) : b < 2 ^ Builtin.Int.intBits b := by
  have h : b.natAbs < 2 ^ Builtin.Int.intBits b := PySem.intBits_le_iff.mp (Nat.le_refl _)
  have e : ((2 : Int) ^ Builtin.Int.intBits b) = ((2 ^ Builtin.Int.intBits b : Nat) : Int) := by rw [Int.natCast_pow]; rfl
  rw [e]; omega
theorem log2_small {b : Int} {k : Nat} (hk : Builtin.Int.intBits b ≤ k) (hk2 : k < 9000) (hb : b ≠ 0) : b.natAbs.log2 < 9000 := by
  have h : b.natAbs < 2 ^ k := PySem.intBits_le_iff.mp hk
  have h2 : b.natAbs.log2 < k := (Nat.log2_lt (by omega)).mpr h
  omega
end Mine
end
-- BCDP
section
open PySem PySem.W PyProof.Rows PySem.Calls
set_option maxRecDepth 100000
set_option maxHeartbeats 8000000
namespace Mine
theorem off4 : True := by
  w_top off
  k_with_none
  exact trivial
theorem fill6 : (Challenge.rw_re0104_02, hd.heap_1) = (Challenge.rw_re0104_02, hd.heap_1) := by
  k_fill
  rfl
theorem lineCDP1 : True := by
  k_with "binaryOp LShift int int" => (refine lshift_int (by assumption) (by assumption) ?_)
  exact trivial
theorem allNe_of {d : Addr} {l : Ledg} (h : AllLt d l) : ∀ p ∈ l, p.1 ≠ d := fun p hp => Nat.ne_of_lt (ktn_ltOf h p hp)
local macro_rules | `(tactic| k_all) => `(tactic| exact allNe_of (by assumption))
theorem ints_append {vs ws : List Value} {ns ms : List Int} (h : IntsAre vs ns) (k : IntsAre ws ms) : IntsAre (vs ++ ws) (ns ++ ms) := by
  induction h with
  | nil => exact k
  | cons n t _ ih => exact .cons n t ih
theorem ints_reverse {vs : List Value} {ns : List Int} (h : IntsAre vs ns) : IntsAre vs.reverse ns.reverse := by
  induction h with
  | nil => exact .nil
  | cons n t _ ih => rw [List.reverse_cons, List.reverse_cons]; exact ints_append ih (.cons n t .nil)
theorem heads2 {h₀ h : Heap} {L D D2 : Addr} {o o2 : Obj} {rest : Ledg} (_ : News h₀ L h ((D, o) :: (D2, o2) :: rest)) : ∃ D' D2', D' = D ∧ D2' = D2 := ⟨D, D2, rfl, rfl⟩
theorem offI_lt {I : Addr} {it : Obj} : ∀ {l : Ledg}, AllLt I l → OffI I it l
  | [], _ => trivial
  | _ :: _, h => ⟨.inl (Nat.ne_of_lt h.1), offI_lt h.2⟩
theorem canon4 {m : Str → Option Value} {x1 x2 x3 x4 : Str} {v1 v2 v3 v4 : Value} (h1 : m x1 = some v1) (h2 : m x2 = some v2) (h3 : m x3 = some v3) (h4 : m x4 = some v4) :
    m = fun y => if y = x1 then some v1 else if y = x2 then some v2 else if y = x3 then some v3 else if y = x4 then some v4 else m y := by
  funext y
  split
  · rename_i h; rw [h]; exact h1
  · split
    · rename_i h; rw [h]; exact h2
    · split
      · rename_i h; rw [h]; exact h3
      · split
        · rename_i h; rw [h]; exact h4
        · rfl
section
variable {prog : Program} {w : World} {A : Around} {E : Value → Shared → Prop} {s : Shared} {env : Env} {h₀ : Heap} {x : Str} {body : List Stmt} {Q : Flow → Shared → Prop} {I : Addr} {lp : Addr × Obj}
theorem rev_ind (P : List Value → (Str → Option Value) → Ledg → Prop)
    (base : ∀ m news, P [] m news → ∀ h tk, Fr h₀ env.locals h m → News h₀ env.locals h news → Q .next { s with heap := h, toks := tk })
    (step : ∀ v r m news, P (v :: r) m news → ∀ (it : Obj) h tk, it.cls = .type "list_reverseiterator" → Fr h₀ env.locals h (fun y => if y = x then some v else m y) → News h₀ env.locals h ((I, it) :: news) →
      wpAny (model prog w) A (execs body env) (UnrPost h₀ env.locals { s with heap := h, toks := tk } I it (fun m' n' => lp ∈ n' ∧ P r m' n') Q) E { s with heap := h, toks := tk }) :
    ∀ r m news, P r m news → RevRest prog w A E h₀ env x body Q s I lp r m news
  | [], m, news, h => base m news h
  | v :: r, m, news, h => fun it h1 tk hit F N => wpAny_mono (step v r m news h it h1 tk hit F N) (fun f s₂ p => by
      have go : UnrEnd h₀ env.locals { s with heap := h1, toks := tk } I it (fun m' n' => lp ∈ n' ∧ P r m' n') s₂ → UnrEnd h₀ env.locals { s with heap := h1, toks := tk } I it (fun m' n' => lp ∈ n' ∧ RevRest prog w A E h₀ env x body Q s I lp r m' n') s₂ := by
        intro  hzz
        refine hideG ?_; intro HP back; obtain ⟨h', tk', m', n', e, F', N', off, a, b⟩ := hzz; refine back ?_; clear back HP
        exact ⟨h', tk', m', n', e, F', N', off, a, rev_ind P base step r m' n' b⟩
      cases f with
      | ret v => exact p
      | brk => exact p
      | next => exact go p
      | cont => exact go p) fun _ _ e => e
end
theorem digs_fit {a b : Int} {n d : Nat} (hn0 : 0 < n) (ha : 0 ≤ a) (hn : Builtin.Int.intBits b = n) (hd : ((((Builtin.Int.intBits a) : Nat) : Int) + (n : Nat) - 1).fdiv (n : Nat) = (d : Nat)) : a < (2 ^ n) ^ d := by
  have h1 := lt_pow_bits ha
  have h2 : Builtin.Int.intBits a ≤ n * d := by
    rw [Int.fdiv_eq_ediv_of_nonneg _ (Int.natCast_nonneg _)] at hd
    have h3 := Int.lt_mul_ediv_self_add (x := (((Builtin.Int.intBits a) : Nat) : Int) + (n : Nat) - 1) (k := ((n : Nat) : Int)) (by omega)
    rw [hd] at h3
    have h4 : ((n * d : Nat) : Int) = (n : Int) * (d : Int) := Int.natCast_mul _ _
    omega
  rw [← Int.pow_mul]
  exact Int.lt_of_lt_of_le h1 (pow_le_pow2 h2)
theorem divpos (w : World) (mean : ExcName → Option Value) (mg mb : Str → Option Value) (a b : Int) (ta tb : Tok) {t : Ledg} (ht : Tabs t) (d : Nat) (hb : 0 < b) (hn0 : 0 < Builtin.Int.intBits b) (hn2 : Builtin.Int.intBits b < 200) (ha : 0 ≤ a) (hd : ((((Builtin.Int.intBits a) : Nat) : Int) + (Builtin.Int.intBits b : Nat) - 1).fdiv (Builtin.Int.intBits b : Nat) = d) (hd0 : 0 < a → 0 < d) (hd1 : a = 0 → d = 0) (hd2 : d < 10) (hax : a < 2 ^ 3000) :
    CallOk w mean mg mb t 25 56 [.int a ta, .int b tb] (fun r nw => ∃ t' r' t1 t2, Tabs t' ∧ nw = (r', tup2 (.int (a / b) t1) (.int (a % b) t2)) :: t' ∧ r = .ref r') := by
  unfold CallOk
  intro dp un gd cn cs a' ccd cl outer A₀ base h₀ L m s Q E B F X N T hk hdp hun hret
  refine wpAny_call ?_
  (refine' enter_K ?k1 ?k2 ?k3 ?k4 ?k5 ?kA ?kF ?kK ?k6 ?k7 ?k8 ?k9 ?kB ?_ ?c2 ?c3 ?c4 ?c5; (case kA => exact rfl); (case kF => exact rfl); (case kK => assumption); (case k1 => k_asm); (case k2 => k_asm); (case k3 => k_asm); (case k4 => k_asm); (case k5 => k_asm); (case k6 => k_is); (case k7 => k_is); (case k8 => first | exact room0 hdp | ktr_room); (case k9 => exact BindsTo.of_eq rfl); (case c5 => decide); (case kB => exact locs rfl); (case c2 => exact rfl); (case c3 => exact rfl); (case c4 => exact rfl); k_whole; intro g L' h' G FG F' N' B' X' T' l1; (try dsimp only); (try k_fold))
  k_steps
  with_reducible rename Fr _ _ _ _ => F2
  with_reducible rename News _ _ _ _ => N2
  refine CallOk.use (i2d_t w mean mg mb a _ _ _ ht d (by omega) (by omega) ha hd hd0 hd1 hd2 hax) B' F2 X' N2 T' rfl (by first | exact room1 hdp rfl | ktr_room) (by first | exact units1 hun rfl | ktr_units) ?_
  intro r1 nw1 h1' tk1 F1 N1 K1 hr1
  refine hideG ?_; intro HP back; obtain ⟨t', D, vs, nn, ht', rfl, rfl, hI⟩ := hr1; refine back ?_; clear back HP
  clear F2 N2
  dsimp only
  k_steps
  with_reducible rename Fr _ _ _ _ => F5
  with_reducible rename News _ _ _ _ => N5
  refine hideG ?_; intro HP back; obtain ⟨I, l, hI1, hI2⟩ := heads2 N5; refine back ?_; clear back HP
  subst hI1 hI2
  rename D < l ∧ AllLt l t' => lq
  rename l < I ∧ D < I ∧ AllLt I t' => lI
  obtain ⟨lI1, lI2, lI3⟩ := lI
  obtain ⟨lq1, lq2⟩ := lq
  generalize hn : Builtin.Int.intBits b = n at *
  have hbn : b < 2 ^ n := by rw [← hn]; exact lt_pow_bits (Int.le_of_lt hb)
  rw [Int.toNat_natCast] at hI
  refine iter_revUnr rfl F5 N5 ⟨.inl (Nat.ne_of_lt lI1), .inl (Nat.ne_of_lt lI2), offI_lt lI3⟩ (.tail _ (.head _)) rfl rfl ?_
  refine rev_ind (P := fun r m news => ∃ ks qs qn R v k tr tn, IntsAre r ks ∧ IntsAre qs qn ∧ (∀ x ∈ ks, 0 ≤ x ∧ x < 2 ^ n) ∧ (∀ x ∈ qn, 0 ≤ x ∧ x < 2 ^ n) ∧ qn.length + ks.length = d ∧ ks.foldl (st (2 ^ n)) v = a ∧ R = v % b ∧ unD (2 ^ n) qn.reverse = v / b ∧
      m (Str.ofString "b") = some (.int b tb) ∧ m (Str.ofString "n") = some (.int n tn) ∧ m (Str.ofString "q_digits") = some (.ref l) ∧ m (Str.ofString "r") = some (.int R tr) ∧ news = (l, listOf qs.toArray k) :: (D, listOf vs.toArray nn) :: t') ?_ ?_ _ _ _ ?_
  · intro m1 news1 hzz h6 tk6 F6 N6
    refine hideG ?_; intro HP back; obtain ⟨ks, qs, qn, R, v, k, tr, tn, hks, hqs, hkb, hqb, hlen, hfold, hR, hq, m1b, m1n, m1q, m1r, rfl⟩ := hzz; refine back ?_; clear back HP
    cases hks
    rw [canon4 m1b m1n m1q m1r] at F6
    dsimp only
    k_steps
    with_reducible rename Fr _ _ _ _ => F7
    with_reducible rename News _ _ _ _ => N7
    dsimp only
    (k_dflt (refine' kl_reverse ?zF ?zN ?ze ?zU ?zz ?_; (case zF => exact F7); (case zN => exact N7); (case ze => exact rfl); (case zU => k_upd); (case zz => (rw [List.toList_toArray, hqs.length]; rw [sizeLine_eq]; omega))))
    intro h8 F8 N8
    have hrev : IntsAre qs.toArray.toList.reverse qn.reverse := by rw [List.toList_toArray]; exact ints_reverse hqs
    clear F7 N7
    dsimp only
    k_steps
    with_reducible rename Fr _ _ _ _ => F9
    with_reducible rename News _ _ _ _ => N9
    have hva : v = a := hfold
    subst hva
    have hql : qn.reverse.length < 10 := by rw [List.length_reverse]; simp only [List.length_nil] at hlen; omega
    have hqB : ∀ x ∈ qn.reverse, 0 ≤ x ∧ x < 2 ^ 1000 := fun x hx => by
      have z := hqb x (List.mem_reverse.mp hx)
      have z2 := pow_le_pow2 (a := n) (b := 1000) (by omega)
      generalize (2 : Int) ^ 1000 = P at *
      omega
    refine CallOk.use (d2i_t w mean mg mb l _ qn.reverse k n tn ht' (by omega) (by omega) hrev hql hqB) B' F9 X' (newsSub N9 (fun p hp => by simp only [List.mem_cons] at hp ⊢; rcases hp with h | h <;> simp [h])) T' rfl (by first | exact room1 hdp rfl | ktr_room) (by first | exact units1 hun rfl | ktr_units) ?_
    intro r1 nw1 h1' tk1 F1 N1 K1 hr1
    refine hideG ?_; intro HP back; obtain ⟨t2, ht2, rfl, tq, rfl⟩ := hr1; refine back ?_; clear back HP
    rw [Int.toNat_natCast, hq]
    clear F9 N9
    dsimp only
    k_steps
    with_reducible rename Fr h₀ _ _ _ => Fe
    with_reducible rename News h₀ _ _ _ => Ne
    with_reducible rename Fr g _ _ _ => Fg
    with_reducible rename News g _ _ _ => Ng
    have sub : ∀ (o : Addr × Obj) (x : Addr × Obj), ∀ p ∈ o :: t2, p ∈ o :: x :: t2 := fun o x p hp => by simp only [List.mem_cons] at hp ⊢; rcases hp with h | h <;> simp [h]
    rw [hR] at Ne Ng
    exact hret _ _ _ _ Fe (newsSub Ne (sub _ _)) (G.back Fg (newsSub Ng (sub _ _))) ⟨t2, _, _, _, ht2, rfl, rfl⟩
  · intro v0 r0 m1 news1 hzz it h6 tk6 hit F6 N6
    refine hideG ?_; intro HP back; obtain ⟨ks, qs, qn, R, v, k, tr, tn, hks, hqs, hkb, hqb, hlen, hfold, hR, hq, m1b, m1n, m1q, m1r, rfl⟩ := hzz; refine back ?_; clear back HP
    cases hks with
    | @cons dg tdg _ ks' hks' =>
    rw [canon4 m1b m1n m1q m1r] at F6
    have hR0 : 0 ≤ R := by rw [hR]; exact Int.emod_nonneg _ (Int.ne_of_gt hb)
    have hR1 : R < b := by rw [hR]; exact Int.emod_lt_of_pos _ hb
    have hdg := hkb dg (.head _)
    have n0 : (0 : Int) ≤ (n : Int) := Int.natCast_nonneg _
    have bR : Builtin.Int.intBits R ≤ n := bits_of_lt hR0 (by omega)
    have n1 : ((Builtin.Int.intBits R : Nat) : Int) + (n : Int) ≤ 2 ^ 27 := by omega
    k_steps
    rw [Int.toNat_natCast]
    with_reducible rename Fr _ _ _ _ => F7
    with_reducible rename News _ _ _ _ => N7
    refine CallOk.use ((div2n1n_ok w mean mg mb (R * 2 ^ n + dg) b n _ _ _ (by omega) (log2_small (k := n) (by omega) (by omega) (by omega)) (div_bits hn2 hb (Int.le_of_lt hbn) hR0 hR1 hdg.1 hdg.2)).frame _ (fun _ _ _ _ _ _ hh => nomatch hh)) B' F7 X' N7 T' rfl (by first | exact room1 hdp rfl | ktr_room) (by first | exact units1 hun rfl | ktr_units) ?_
    intro r1 nw1 h1' tk1 F1 N1 K1 hr1
    refine hideG ?_; intro HP back; obtain ⟨nw2, rfl, hap, r', t1, t2, rfl, rfl⟩ := hr1; refine back ?_; clear back HP
    have ap1 : r' ≠ l := hap _ (.head _) (l, _) (.tail _ (.head _))
    have ap2 : r' ≠ I := hap _ (.head _) (I, _) (.head _)
    simp only [List.cons_append, List.nil_append] at N1
    clear F7 N7
    dsimp only
    k_steps
    with_reducible rename Fr _ _ _ _ => Fz
    with_reducible rename News _ _ _ _ => Nz
    try simp only [List.push_toArray] at Nz
    have tn := div_turn (B := 2 ^ n) (v := v) (Int.pow_pos (by decide)) hb hdg.1 hdg.2
    rw [← hR] at tn
    refine UnrEnd.intro Fz Nz ((l, listOf (qs ++ [Value.int ((R * 2 ^ n + dg).fdiv b) t1]).toArray (k + 1)) :: (D, listOf vs.toArray nn) :: t') ?_ ?_ ⟨.tail _ (.head _), ks', _, qn ++ [(R * 2 ^ n + dg).fdiv b], _, st (2 ^ n) v dg, k + 1, _, _, hks', ints_append hqs (.cons _ _ .nil), fun x hx => hkb x (.tail _ hx), ?_, ?_, hfold, tn.2.1, ?_, rfl, rfl, rfl, rfl, rfl⟩
    · intro p hp
      simp only [List.mem_cons] at hp ⊢
      rcases hp with h | h | h | h <;> simp [h]
    · intro p hp
      rcases List.mem_cons.mp hp with rfl | hp
      · exact Nat.ne_of_lt lI1
      · rcases List.mem_cons.mp hp with rfl | hp
        · exact Nat.ne_of_lt lI2
        · exact allNe_of lI3 p hp
    · intro x hx
      rcases List.mem_append.mp hx with h | h
      · exact hqb x h
      · rw [List.mem_singleton.mp h]; exact tn.2.2
    · rw [List.length_append]; simp only [List.length_cons, List.length_nil] at hlen ⊢; omega
    · rw [unD_snoc, hq]; exact tn.1
  · refine ⟨(digs (2 ^ n) d a).reverse, [], [], 0, 0, 0, _, _, ints_reverse hI, .nil, ?_, (fun _ h => nomatch h), ?_, ?_, ?_, ?_, rfl, rfl, rfl, rfl, rfl⟩
    · intro x hx
      by_cases ha0 : a = 0
      · rw [hd1 ha0] at hx; cases hx
      · obtain ⟨d', rfl⟩ : ∃ d', d = d' + 1 := ⟨d - 1, by have := hd0 (by omega); omega⟩
        exact digs_bound (Int.pow_pos (by decide)) d' a ha (digs_fit hn0 ha hn hd) x (List.mem_reverse.mp hx)
    · rw [List.length_reverse, digs_length, List.length_nil, Nat.zero_add]
    · rw [foldl_st]
      by_cases ha0 : a = 0
      · rw [hd1 ha0, ha0]; rfl
      · obtain ⟨d', rfl⟩ : ∃ d', d = d' + 1 := ⟨d - 1, by have := hd0 (by omega); omega⟩
        exact unD_digs _ _ _
    · rw [Int.zero_emod]
    · rw [Int.zero_ediv]; rfl
end Mine
end
-- BCIDM
section
open PySem PySem.W PyProof.Rows PySem.Calls
set_option maxRecDepth 100000
set_option maxHeartbeats 8000000
namespace Mine
theorem off5 : True := by
  w_top off
  k_with_none
  exact trivial
theorem fill7 : (Challenge.rw_re0104_02, hd.heap_1) = (Challenge.rw_re0104_02, hd.heap_1) := by
  k_fill
  rfl
theorem bits_pos {b : Int} (h : b ≠ 0) : 0 < Builtin.Int.intBits b := by
  unfold Builtin.Int.intBits
  rw [if_neg (by simpa using h)]; omega
theorem neg_div {a b : Int} (_ : a < 0) (hb : 0 < b) : -((-a - 1).fdiv b) - 1 = a.fdiv b ∧ b + (-((-a - 1).fmod b) - 1) = a.fmod b := by
  rw [Int.fdiv_eq_ediv_of_nonneg _ (Int.le_of_lt hb), Int.fmod_eq_emod_of_nonneg _ (Int.le_of_lt hb), Int.fdiv_eq_ediv_of_nonneg _ (Int.le_of_lt hb), Int.fmod_eq_emod_of_nonneg _ (Int.le_of_lt hb)]
  have h1 := Int.emod_add_mul_ediv (-a - 1) b
  have h2 := Int.emod_nonneg (-a - 1) (Int.ne_of_gt hb)
  have h3 := Int.emod_lt_of_pos (-a - 1) hb
  generalize (-a - 1) % b = r at *
  generalize (-a - 1) / b = q at *
  have e : a = (b - r - 1) + b * (-q - 1) := by
    rw [Int.mul_sub, Int.mul_neg, Int.mul_one]; omega
  have e2 : a / b = -q - 1 := by
    rw [e, Int.add_mul_ediv_left _ _ (Int.ne_of_gt hb), Int.ediv_eq_zero_of_lt (by omega) (by omega)]; omega
  have e3 : a % b = b - r - 1 := by
    rw [e, Int.add_mul_emod_self_left, Int.emod_eq_of_lt (by omega) (by omega)]
  rw [e2, e3]; omega
theorem neg_mod (a b : Int) : -((-a).fmod (-b)) = a.fmod b := by
  have h1 := Int.fmod_add_mul_fdiv a b
  have h2 := Int.fmod_add_mul_fdiv (-a) (-b)
  rw [Int.neg_fdiv_neg, Int.neg_mul] at h2
  omega
theorem divpos' (w : World) (mean : ExcName → Option Value) (mg mb : Str → Option Value) (a b : Int) (ta tb : Tok) {t : Ledg} (ht : Tabs t) (hb : 0 < b) (hn2 : Builtin.Int.intBits b < 200) (ha : 0 ≤ a) (hd : Builtin.Int.intBits a ≤ 9 * Builtin.Int.intBits b) :
    CallOk w mean mg mb t 25 56 [.int a ta, .int b tb] (fun r nw => ∃ t' r' t1 t2, Tabs t' ∧ nw = (r', tup2 (.int (a / b) t1) (.int (a % b) t2)) :: t' ∧ r = .ref r') := by
  have hn0 := bits_pos (Int.ne_of_gt hb)
  have hal := lt_pow_bits ha
  refine divpos w mean mg mb a b ta tb ht ((Builtin.Int.intBits a + Builtin.Int.intBits b - 1) / Builtin.Int.intBits b) hb hn0 hn2 ha ?_ ?_ ?_ ?_ ?_
  · rw [Int.fdiv_eq_ediv_of_nonneg _ (Int.natCast_nonneg _), Int.natCast_ediv]
    congr 1
    omega
  · intro h
    have := bits_pos (Int.ne_of_gt h)
    exact Nat.div_pos (by omega) hn0
  · intro h
    subst h
    exact Nat.div_eq_of_lt (by show 0 + _ - 1 < _; omega)
  · refine Nat.div_lt_of_lt_mul ?_
    omega
  · exact Int.lt_of_lt_of_le hal (pow_le_pow2 (by omega))
theorem idm_pp (w : World) (mean : ExcName → Option Value) (mg mb : Str → Option Value) (a b : Int) (ta tb : Tok) {t : Ledg} (ht : Tabs t) (hb : 0 < b) (hn2 : Builtin.Int.intBits b < 200) (ha : 0 ≤ a) (hd : Builtin.Int.intBits a ≤ 9 * Builtin.Int.intBits b) :
    CallOk w mean mg mb t 27 63 [.int a ta, .int b tb] (fun r nw => ∃ t' r' t1 t2, Tabs t' ∧ nw = (r', tup2 (.int (a.fdiv b) t1) (.int (a.fmod b) t2)) :: t' ∧ r = .ref r') := by
  rw [Int.fdiv_eq_ediv_of_nonneg _ (Int.le_of_lt hb), Int.fmod_eq_emod_of_nonneg _ (Int.le_of_lt hb)]
  unfold CallOk
  intro dp un gd cn cs a' ccd cl outer A₀ base h₀ L m s Q E B F X N T hk hdp hun hret
  refine wpAny_call ?_
  (refine' enter_K ?k1 ?k2 ?k3 ?k4 ?k5 ?kA ?kF ?kK ?k6 ?k7 ?k8 ?k9 ?kB ?_ ?c2 ?c3 ?c4 ?c5; (case kA => exact rfl); (case kF => exact rfl); (case kK => assumption); (case k1 => k_asm); (case k2 => k_asm); (case k3 => k_asm); (case k4 => k_asm); (case k5 => k_asm); (case k6 => k_is); (case k7 => k_is); (case k8 => first | exact room0 hdp | ktr_room); (case k9 => exact BindsTo.of_eq rfl); (case c5 => decide); (case kB => exact locs rfl); (case c2 => exact rfl); (case c3 => exact rfl); (case c4 => exact rfl); k_whole; intro g L' h' G FG F' N' B' X' T' l1; (try dsimp only); (try k_fold))
  k_steps
  all_goals first | (exfalso; have hz : b = 0 := (by assumption); omega) | skip
  with_reducible rename Fr _ _ _ _ => F2
  with_reducible rename News _ _ _ _ => N2
  refine CallOk.use (divpos' w mean mg mb a b _ _ ht hb hn2 ha hd) B' F2 X' N2 T' rfl (by first | exact room1 hdp rfl | ktr_room) (by first | exact units1 hun rfl | ktr_units) ?_
  intro r1 nw1 h1' tk1 F1 N1 K1 hr1
  refine hideG ?_; intro HP back; obtain ⟨t', r', t1, t2, ht', rfl, rfl⟩ := hr1; refine back ?_; clear back HP
  clear F2 N2
  dsimp only
  k_steps
  with_reducible rename Fr h₀ _ _ _ => Fe
  with_reducible rename News h₀ _ _ _ => Ne
  exact hret _ _ _ _ Fe Ne (G.back F1 N1) ⟨t', r', t1, t2, ht', rfl, rfl⟩
theorem idm_np (w : World) (mean : ExcName → Option Value) (mg mb : Str → Option Value) (a b : Int) (ta tb : Tok) {t : Ledg} (ht : Tabs t) (hb : 0 < b) (hn2 : Builtin.Int.intBits b < 200) (ha : a < 0) (hd : Builtin.Int.intBits (-a - 1) ≤ 9 * Builtin.Int.intBits b) :
    CallOk w mean mg mb t 29 63 [.int a ta, .int b tb] (fun r nw => ∃ t' r' t1 t2, Tabs t' ∧ nw = (r', tup2 (.int (a.fdiv b) t1) (.int (a.fmod b) t2)) :: t' ∧ r = .ref r') := by
  unfold CallOk
  intro dp un gd cn cs a' ccd cl outer A₀ base h₀ L m s Q E B F X N T hk hdp hun hret
  refine wpAny_call ?_
  (refine' enter_K ?k1 ?k2 ?k3 ?k4 ?k5 ?kA ?kF ?kK ?k6 ?k7 ?k8 ?k9 ?kB ?_ ?c2 ?c3 ?c4 ?c5; (case kA => exact rfl); (case kF => exact rfl); (case kK => assumption); (case k1 => k_asm); (case k2 => k_asm); (case k3 => k_asm); (case k4 => k_asm); (case k5 => k_asm); (case k6 => k_is); (case k7 => k_is); (case k8 => first | exact room0 hdp | ktr_room); (case k9 => exact BindsTo.of_eq rfl); (case c5 => decide); (case kB => exact locs rfl); (case c2 => exact rfl); (case c3 => exact rfl); (case c4 => exact rfl); k_whole; intro g L' h' G FG F' N' B' X' T' l1; (try dsimp only); (try k_fold))
  k_steps
  all_goals first | (exfalso; have hz : b = 0 := (by assumption); omega) | skip
  with_reducible rename Fr _ _ _ _ => F2
  with_reducible rename News _ _ _ _ => N2
  have eN : Builtin.bitNot a = -a - 1 := rfl
  have eD := neg_div ha hb
  refine CallOk.use (idm_pp w mean mg mb (Builtin.bitNot a) b _ _ ht hb hn2 (by omega) (by rw [eN]; exact hd)) B' F2 X' N2 T' rfl (by first | exact room1 hdp rfl | ktr_room) (by first | exact units1 hun rfl | ktr_units) ?_
  intro r1 nw1 h1' tk1 F1 N1 K1 hr1
  refine hideG ?_; intro HP back; obtain ⟨t', r', t1, t2, ht', rfl, rfl⟩ := hr1; refine back ?_; clear back HP
  clear F2 N2
  dsimp only
  k_steps
  with_reducible rename Fr h₀ _ _ _ => Fe
  with_reducible rename News h₀ _ _ _ => Ne
  with_reducible rename Fr g _ _ _ => Fg
  with_reducible rename News g _ _ _ => Ng
  have e1 : Builtin.bitNot ((Builtin.bitNot a).fdiv b) = a.fdiv b := eD.1
  have e2 : b + Builtin.bitNot ((Builtin.bitNot a).fmod b) = a.fmod b := eD.2
  rw [e1, e2] at Ne Ng
  have sub : ∀ (o : Addr × Obj) (x : Addr × Obj), ∀ p ∈ o :: t', p ∈ o :: x :: t' := fun o x p hp => by simp only [List.mem_cons] at hp ⊢; rcases hp with h | h <;> simp [h]
  exact hret _ _ _ _ Fe (newsSub Ne (sub _ _)) (G.back Fg (newsSub Ng (sub _ _))) ⟨t', _, _, _, ht', rfl, rfl⟩
theorem idm_n (w : World) (mean : ExcName → Option Value) (mg mb : Str → Option Value) (a b : Int) (ta tb : Tok) {t : Ledg} (ht : Tabs t) (hb : b < 0) (hn2 : Builtin.Int.intBits b < 200) (hd : Builtin.Int.intBits (a - 1) ≤ 9 * Builtin.Int.intBits b) (hd' : Builtin.Int.intBits (-a) ≤ 9 * Builtin.Int.intBits b) :
    CallOk w mean mg mb t 31 63 [.int a ta, .int b tb] (fun r nw => ∃ t' r' t1 t2, Tabs t' ∧ nw = (r', tup2 (.int (a.fdiv b) t1) (.int (a.fmod b) t2)) :: t' ∧ r = .ref r') := by
  unfold CallOk
  intro dp un gd cn cs a' ccd cl outer A₀ base h₀ L m s Q E B F X N T hk hdp hun hret
  refine wpAny_call ?_
  (refine' enter_K ?k1 ?k2 ?k3 ?k4 ?k5 ?kA ?kF ?kK ?k6 ?k7 ?k8 ?k9 ?kB ?_ ?c2 ?c3 ?c4 ?c5; (case kA => exact rfl); (case kF => exact rfl); (case kK => assumption); (case k1 => k_asm); (case k2 => k_asm); (case k3 => k_asm); (case k4 => k_asm); (case k5 => k_asm); (case k6 => k_is); (case k7 => k_is); (case k8 => first | exact room0 hdp | ktr_room); (case k9 => exact BindsTo.of_eq rfl); (case c5 => decide); (case kB => exact locs rfl); (case c2 => exact rfl); (case c3 => exact rfl); (case c4 => exact rfl); k_whole; intro g L' h' G FG F' N' B' X' T' l1; (try dsimp only); (try k_fold))
  k_steps
  all_goals first | (exfalso; have hz : b = 0 := (by assumption); omega) | skip
  with_reducible rename Fr _ _ _ _ => F2
  with_reducible rename News _ _ _ _ => N2
  have eb : Builtin.Int.intBits (-b) = Builtin.Int.intBits b := by unfold Builtin.Int.intBits; simp
  have C : ∀ ta tb, CallOk w mean mg mb t 29 63 [.int (-a) ta, .int (-b) tb] (fun r nw => ∃ t' r' t1 t2, Tabs t' ∧ nw = (r', tup2 (.int ((-a).fdiv (-b)) t1) (.int ((-a).fmod (-b)) t2)) :: t' ∧ r = .ref r') := fun ta tb => by
    by_cases h : 0 ≤ -a
    · exact (idm_pp w mean mg mb (-a) (-b) ta tb ht (by omega) (by omega) h (by omega)).mono (by omega) fun _ _ q => q
    · exact idm_np w mean mg mb (-a) (-b) ta tb ht (by omega) (by omega) (by omega) (by rw [eb, show - -a - 1 = a - 1 by omega]; exact hd)
  refine CallOk.use (C _ _) B' F2 X' N2 T' rfl (by first | exact room1 hdp rfl | ktr_room) (by first | exact units1 hun rfl | ktr_units) ?_
  intro r1 nw1 h1' tk1 F1 N1 K1 hr1
  refine hideG ?_; intro HP back; obtain ⟨t', r', t1, t2, ht', rfl, rfl⟩ := hr1; refine back ?_; clear back HP
  clear F2 N2
  dsimp only
  k_steps
  with_reducible rename Fr h₀ _ _ _ => Fe
  with_reducible rename News h₀ _ _ _ => Ne
  with_reducible rename Fr g _ _ _ => Fg
  with_reducible rename News g _ _ _ => Ng
  have e1 : (-a).fdiv (-b) = a.fdiv b := Int.neg_fdiv_neg a b
  have e2 : -((-a).fmod (-b)) = a.fmod b := neg_mod a b
  rw [e1, e2] at Ne Ng
  have sub : ∀ (o : Addr × Obj) (x : Addr × Obj), ∀ p ∈ o :: t', p ∈ o :: x :: t' := fun o x p hp => by simp only [List.mem_cons] at hp ⊢; rcases hp with h | h <;> simp [h]
  exact hret _ _ _ _ Fe (newsSub Ne (sub _ _)) (G.back Fg (newsSub Ng (sub _ _))) ⟨t', _, _, _, ht', rfl, rfl⟩
end Mine
end
-- TxtL
section
open PySem PySem.Builtin PySem.Builtin.Str PySem.StrLaws
namespace Mine
abbrev dots : Str := Str.ofString "..."
theorem dots_len : dots.length = 3 := by decide +kernel
theorem dots_cps : dots.cps.toList = [46, 46, 46] := by decide +kernel
theorem at_dots {z : Str} {i : Nat} (h : At z dots z.length i) : i + 3 ≤ z.length ∧ ∀ j, j < 3 → z.cps.toList[i + j]? = some 46 := by
  obtain ⟨h1, h2⟩ := h
  rw [dots_len] at h1
  refine ⟨h1, fun j hj => ?_⟩
  rw [subAt_eq, beq_iff_eq, dots_cps, dots_len] at h2
  have : ((z.cps.toList.drop i).take 3)[j]? = [46, 46, 46][j]? := by rw [h2]
  rw [List.getElem?_take_of_lt hj, List.getElem?_drop] at this
  rw [this]
  match j, hj with
  | 0, _ => rfl
  | 1, _ => rfl
  | 2, _ => rfl
theorem str_len (x : Str) : x.length = x.cps.toList.length := by rw [Array.length_toList]; rfl
theorem app_cps (x y : Str) : (x ++ y).cps.toList = x.cps.toList ++ y.cps.toList := by rw [Str.cps_append, Array.toList_append]
theorem str_ext {x y : Str} (h : x.cps.toList = y.cps.toList) : x = y := Str.ext' (Array.toList_inj.mp h)
theorem occ_one {z : Str} {o : Nat} (h1 : At z dots z.length o) (h2 : ∀ k, At z dots z.length k → k = o) : occurrences z dots 0 z.length (z.length + 1) = [o] := by
  obtain ⟨f, hc, hn⟩ := occ_tight z dots (by rw [dots_len]; decide)
  generalize occurrences z dots 0 z.length (z.length + 1) = cuts at hc
  cases cuts with
  | nil =>
    have e : f = 0 := hc
    exact absurd h1 (hn o (by omega))
  | cons c r =>
    obtain ⟨_, a2, _, a4⟩ := hc
    have e := h2 c a2
    subst e
    cases r with
    | nil => rfl
    | cons c2 r2 =>
      obtain ⟨b1, b2, _, _⟩ := a4
      have e2 := h2 c2 b2
      rw [dots_len] at b1
      omega
theorem split_one {z : Str} {o : Nat} (h1 : At z dots z.length o) (h2 : ∀ k, At z dots z.length k → k = o) : Txt.split z dots = [strSub z 0 o, strSub z (o + 3) z.length] := by
  have hl := (at_dots h1).1
  unfold Txt.split
  rw [occ_one h1 h2, if_neg, if_neg (by simp)]
  · rw [dots_len]; rfl
  · rw [dots_len]
    have k : Builtin.Str.strKind dots = 1 := by decide +kernel
    rw [k]
    have : ¬ Builtin.Str.strKind z < 1 := by unfold Builtin.Str.strKind; split <;> (try split) <;> omega
    simp only [Bool.or_eq_true, decide_eq_true_eq, not_or]
    exact ⟨by omega, this⟩
theorem at_app (y x : Str) : At (y ++ dots ++ x) dots (y ++ dots ++ x).length y.length := by
  refine ⟨?_, ?_⟩
  · rw [Str.length_append, Str.length_append]; omega
  · rw [subAt_eq, beq_iff_eq, app_cps, app_cps, dots_len, List.append_assoc, str_len y, List.drop_left, dots_cps]; rfl
/-- the dots stand where they were put, and nowhere else -/
theorem split_pre {x : Str} (hx : 46 ∉ x.cps.toList) : Txt.split (dots ++ x) dots = [Str.empty, x] := by
  have e : dots ++ x = Str.empty ++ dots ++ x := by rw [Str.empty_append]
  have h1 : At (dots ++ x) dots (dots ++ x).length 0 := by
    have := at_app Str.empty x
    rw [← e] at this; exact this
  rw [split_one (o := 0) h1 fun k hk => ?_]
  · congr 1
    · apply str_ext
      rw [strSub_toList]
      simp
      rfl
    · congr 1
      apply str_ext
      rw [strSub_toList, Str.length_append, app_cps, dots_len, dots_cps, str_len x]
      simp
      rw [← Array.length_toList, List.take_length]
  · have z := (at_dots hk).2 2 (by decide)
    have z1 := (at_dots hk).2 1 (by decide)
    rw [app_cps, dots_cps] at z
    by_cases hk0 : k = 0
    · exact hk0
    · exfalso
      have : [46, 46, 46] ++ x.cps.toList = [46, 46, 46] ++ x.cps.toList := rfl
      rw [List.getElem?_append_right (by simp; omega)] at z
      exact hx (List.mem_of_getElem? z)
theorem split_suf {y : Str} (hy : 46 ∉ y.cps.toList) : Txt.split (y ++ dots) dots = [y, Str.empty] := by
  have e : y ++ dots = y ++ dots ++ Str.empty := by
    apply str_ext; rw [app_cps (y ++ dots)]; exact (List.append_nil _).symm
  have h1 : At (y ++ dots) dots (y ++ dots).length y.length := by
    have := at_app y Str.empty
    rw [← e] at this; exact this
  rw [split_one (o := y.length) h1 fun k hk => ?_]
  · congr 1
    · apply str_ext
      rw [strSub_toList, app_cps, str_len y]; simp
    · congr 1
      apply str_ext
      rw [strSub_toList, Str.length_append, dots_len]
      simp
      rfl
  · have z := (at_dots hk).2 0 (by decide)
    have zl := (at_dots hk).1
    rw [Str.length_append, dots_len] at zl
    by_cases hk0 : k = y.length
    · exact hk0
    · exfalso
      rw [app_cps, List.getElem?_append_left (by rw [← str_len]; omega)] at z
      exact hy (List.mem_of_getElem? z)
theorem has_dots {z : Str} {o : Nat} (h : At z dots z.length o) : (occurrences z dots 0 z.length 1).isEmpty = false := by
  have := (found_iff z dots).mpr ⟨o, h.1, h.2⟩
  simpa using this
theorem has_pre (x : Str) : (occurrences (dots ++ x) dots 0 (dots ++ x).length 1).isEmpty = false := by
  have e : dots ++ x = Str.empty ++ dots ++ x := by rw [Str.empty_append]
  have := at_app Str.empty x
  rw [← e] at this; exact has_dots this
theorem has_suf (y : Str) : (occurrences (y ++ dots) dots 0 (y ++ dots).length 1).isEmpty = false := by
  have e : y ++ dots = y ++ dots ++ Str.empty := by
    apply str_ext; rw [app_cps (y ++ dots)]; exact (List.append_nil _).symm
  have := at_app y Str.empty
  rw [← e] at this; exact has_dots this
theorem empty_len : Str.empty.length = 0 := by decide +kernel
theorem at_empty (x : Str) {hi i : Nat} (h : i ≤ hi) : At x Str.empty hi i := by
  refine ⟨by rw [empty_len]; exact h, ?_⟩
  rw [subAt_eq, empty_len]; rfl
theorem occ_empty (x : Str) {lo hi : Nat} (h : lo ≤ hi) : ∃ r, occurrences x Str.empty lo hi 1 = lo :: r := by
  rw [occ_eq]
  have hr : List.range' lo (hi + 1 - lo) = lo :: List.range' (lo + 1) (hi - lo) := by
    rw [show hi + 1 - lo = (hi - lo) + 1 by omega, List.range'_succ]
  rcases occ_first x Str.empty hi 1 (Nat.le_refl _) (List.range' lo (hi + 1 - lo)) lo (fun i hi' => by have := List.mem_range'_1.mp hi'; omega) with ⟨_, hn⟩ | ⟨pre, a, post, e, h0, _, hn⟩
  · exact absurd (at_empty x h) (hn lo (by rw [hr]; exact .head _))
  · have ea : a = lo := by
      rw [hr] at e
      cases pre with
      | nil => exact (List.cons.inj e).1.symm
      | cons p ps =>
        have : lo = p := (List.cons.inj e).1
        subst this
        exact absurd (at_empty x h) (hn lo (.head _))
    subst ea
    generalize (forIn (List.range' a (hi + 1 - a)) ((#[] : Array Nat), a) (occBody x Str.empty hi 1)).run.fst = arr at h0
    cases hL : arr.toList with
    | nil => rw [← Array.getElem?_toList, hL] at h0; cases h0
    | cons b r =>
      rw [← Array.getElem?_toList, hL] at h0
      exact ⟨r, by rw [show b = a from Option.some.inj h0]⟩
theorem gives_find4 (x y : Str) (i j : Int) (t u v v2 : Tok) : Gives («str.find» ⟨[.str x t, .str y u, .int i v, .int j v2], []⟩) (.int (match occurrences x y (fromIndex x.length i) (min (fromIndex x.length j) x.length) 1 with | k :: _ => (k : Int) | [] => -1)) := by
  show Gives (match occurrences x y (fromIndex x.length i) (min (fromIndex x.length j) x.length) 1 with | k :: _ => retInt k | [] => (do rule "str.find.not-found"; retInt (-1))) _
  cases occurrences x y (fromIndex x.length i) (min (fromIndex x.length j) x.length) 1 with
  | nil => exact .rule (.of_eq rfl)
  | cons k _ => exact .of_eq rfl
section
variable {prog : Program} {w : World} {A : Around} {E : Value → Shared → Prop} {s : Shared} {x : Str} {t u v v2 : Tok} {i j : Int} {Q : Value → Shared → Prop}
theorem find_empty (h0 : 0 ≤ i) (h1 : i ≤ j) (h2 : j ≤ x.length) (hq : Q (.int i s.toks) { s with toks := s.toks + 1 }) : wpAny (model prog w) A (call (.builtin "str.find") [.str x t, .str Str.empty u, .int i v, .int j v2]) Q E s := by
  have e1 : fromIndex x.length i = i.toNat := by unfold fromIndex; rw [if_neg (by omega)]; omega
  have e2 : min (fromIndex x.length j) x.length = j.toNat := by
    have : fromIndex x.length j = j.toNat := by unfold fromIndex; rw [if_neg (by omega)]; omega
    rw [this]; omega
  obtain ⟨r, hr⟩ := occ_empty x (lo := i.toNat) (hi := j.toNat) (by omega)
  have g := gives_find4 x Str.empty i j t u v v2
  rw [e1, e2, hr] at g
  have e3 : ((i.toNat : Nat) : Int) = i := by omega
  dsimp only at g
  rw [e3] at g
  exact call_gives F.slot_str_find (typeIs_str _ _ _) F.entry_str_find (F.args_str_find_4 _ _ _ _) g hq
end
theorem endswith_le {x y : Str} (h : Txt.endswith x y = true) : y.length ≤ x.length := by
  unfold Txt.endswith at h
  rw [Bool.and_eq_true, decide_eq_true_eq] at h
  omega
theorem startswith_le {x y : Str} (h : Txt.startswith x y = true) : y.length ≤ x.length := by
  unfold Txt.startswith at h
  rw [Bool.and_eq_true, decide_eq_true_eq] at h
  omega
end Mine
end
-- BCEM
section
open PySem PySem.W PyProof.Rows PySem.Calls
set_option maxRecDepth 100000
set_option maxHeartbeats 8000000
namespace Mine
theorem off6 : True := by
  w_top off
  k_with_none
  exact trivial
theorem find_empty' {prog : Program} {w : World} {A : Around} {E : Value → Shared → Prop} {s : Shared} {x y : Str} {t u v v2 : Tok} {i j : Int} {Q : Value → Shared → Prop} (hy : y = Str.empty) (h0 : 0 ≤ i) (h1 : i ≤ j) (h2 : j ≤ x.length) (hq : Q (.int i s.toks) { s with toks := s.toks + 1 }) : wpAny (model prog w) A (call (.builtin "str.find") [.str x t, .str y u, .int i v, .int j v2]) Q E s := by
  subst hy; exact find_empty h0 h1 h2 hq
theorem fill8 : (Challenge.rw_re0104_02, hd.heap_1) = (Challenge.rw_re0104_02, hd.heap_1) := by
  k_fill
  rfl
theorem lineCEM1 : True := by
  k_with "call builtin:str.find" => (refine find_empty' (by assumption) (by omega) (by omega) (by omega) ?_)
  exact trivial
theorem em_suf (w : World) (mean : ExcName → Option Value) (mg mb : Str → Option Value) (want x got : Str) (tw tg : Tok) (hw : want = dots ++ x) (hx : 46 ∉ x.cps.toList) (hx0 : 0 < x.length) (hx1 : x.length < 100) (hg : got.length < 100) :
    CallOk w mean mg mb [] 2 70 [.str want tw, .str got tg] (fun r nw => nw = [] ∧ r = .bool (Txt.endswith got x)) := by
  have hc : (Builtin.Str.occurrences want dots 0 want.length 1).isEmpty = false := by rw [hw]; exact has_pre x
  have hwl : want.length = x.length + 3 := by rw [hw, Str.length_append, dots_len]; omega
  unfold CallOk
  intro dp un gd cn cs a' ccd cl outer A₀ base h₀ L m s Q E B F X N T hk hdp hun hret
  refine wpAny_call ?_
  (refine' enter_K ?k1 ?k2 ?k3 ?k4 ?k5 ?kA ?kF ?kK ?k6 ?k7 ?k8 ?k9 ?kB ?_ ?c2 ?c3 ?c4 ?c5; (case kA => exact rfl); (case kF => exact rfl); (case kK => assumption); (case k1 => k_asm); (case k2 => k_asm); (case k3 => k_asm); (case k4 => k_asm); (case k5 => k_asm); (case k6 => k_is); (case k7 => k_is); (case k8 => first | exact room0 hdp | ktr_room); (case k9 => exact BindsTo.of_eq rfl); (case c5 => decide); (case kB => exact locs rfl); (case c2 => exact rfl); (case c3 => exact rfl); (case c4 => exact rfl); k_whole; intro g L' h' G FG F' N' B' X' T' l1; (try dsimp only); (try k_fold))
  repeat' (first | (k_unfold; (try dsimp only)) | ((fail_if_success (with_reducible show wpAny _ _ (call (Value.builtin "str.split") _) _ _ _)); first | walk1 | (dsimp only; walk1)))
  all_goals first | (exfalso; have hz : (Builtin.Str.occurrences want (Str.ofString "...") 0 want.length 1).isEmpty = true := (by assumption); rw [hc] at hz; cases hz; done) | skip
  with_reducible rename Fr _ _ _ _ => F2
  with_reducible rename News _ _ _ _ => N2
  refine KSpl.split1 F2 N2 (by decide +kernel) ?_ (by rw [hwl, sizeLine_eq]; omega)
  intro D l h1 k1 el hS F3 N3 lD
  rw [hw, split_pre hx] at el
  obtain ⟨e0, he0⟩ : ∃ e0, e0 = Str.empty := ⟨_, rfl⟩
  have hl0 : e0.length = 0 := by rw [he0]; exact empty_len
  rw [← he0] at el
  obtain ⟨ta, l', rfl, el'⟩ := KSpl.cons_of el
  obtain ⟨tb, l'', rfl, el''⟩ := KSpl.cons_of el'
  have := KSpl.nil_of el''
  subst this
  simp only [strValues, List.map_cons, List.map_nil] at N3 hS
  clear F2 N2
  dsimp only
  by_cases he : Txt.endswith got x = true
  · have hle := endswith_le he
    k_steps
    all_goals first | (exfalso; have hz : Txt.endswith got x = false := (by assumption); rw [he] at hz; cases hz; done) | (exfalso; omega) | skip
    with_reducible rename Fr h₀ _ _ _ => Fe
    exact hret _ [] _ _ Fe News.nil (G.back (by assumption) News.nil) ⟨rfl, by rw [he]⟩
  · have hf : Txt.endswith got x = false := by simpa using he
    k_steps
    all_goals first | (exfalso; exact he (by assumption)) | (exfalso; omega) | skip
    with_reducible rename Fr h₀ _ _ _ => Fe
    exact hret _ [] _ _ Fe News.nil (G.back (by assumption) News.nil) ⟨rfl, by rw [hf]⟩
theorem em_pre (w : World) (mean : ExcName → Option Value) (mg mb : Str → Option Value) (want x got : Str) (tw tg : Tok) (hw : want = x ++ dots) (hx : 46 ∉ x.cps.toList) (hx0 : 0 < x.length) (hx1 : x.length < 100) (hg : got.length < 100) :
    CallOk w mean mg mb [] 2 70 [.str want tw, .str got tg] (fun r nw => nw = [] ∧ r = .bool (Txt.startswith got x)) := by
  have hc : (Builtin.Str.occurrences want dots 0 want.length 1).isEmpty = false := by rw [hw]; exact has_suf x
  have hwl : want.length = x.length + 3 := by rw [hw, Str.length_append, dots_len]
  unfold CallOk
  intro dp un gd cn cs a' ccd cl outer A₀ base h₀ L m s Q E B F X N T hk hdp hun hret
  refine wpAny_call ?_
  (refine' enter_K ?k1 ?k2 ?k3 ?k4 ?k5 ?kA ?kF ?kK ?k6 ?k7 ?k8 ?k9 ?kB ?_ ?c2 ?c3 ?c4 ?c5; (case kA => exact rfl); (case kF => exact rfl); (case kK => assumption); (case k1 => k_asm); (case k2 => k_asm); (case k3 => k_asm); (case k4 => k_asm); (case k5 => k_asm); (case k6 => k_is); (case k7 => k_is); (case k8 => first | exact room0 hdp | ktr_room); (case k9 => exact BindsTo.of_eq rfl); (case c5 => decide); (case kB => exact locs rfl); (case c2 => exact rfl); (case c3 => exact rfl); (case c4 => exact rfl); k_whole; intro g L' h' G FG F' N' B' X' T' l1; (try dsimp only); (try k_fold))
  repeat' (first | (k_unfold; (try dsimp only)) | ((fail_if_success (with_reducible show wpAny _ _ (call (Value.builtin "str.split") _) _ _ _)); first | walk1 | (dsimp only; walk1)))
  all_goals first | (exfalso; have hz : (Builtin.Str.occurrences want (Str.ofString "...") 0 want.length 1).isEmpty = true := (by assumption); rw [hc] at hz; cases hz; done) | skip
  with_reducible rename Fr _ _ _ _ => F2
  with_reducible rename News _ _ _ _ => N2
  refine KSpl.split1 F2 N2 (by decide +kernel) ?_ (by rw [hwl, sizeLine_eq]; omega)
  intro D l h1 k1 el hS F3 N3 lD
  rw [hw, split_suf hx] at el
  obtain ⟨e0, he0⟩ : ∃ e0, e0 = Str.empty := ⟨_, rfl⟩
  have hl0 : e0.length = 0 := by rw [he0]; exact empty_len
  rw [← he0] at el
  obtain ⟨ta, l', rfl, el'⟩ := KSpl.cons_of el
  obtain ⟨tb, l'', rfl, el''⟩ := KSpl.cons_of el'
  have := KSpl.nil_of el''
  subst this
  simp only [strValues, List.map_cons, List.map_nil] at N3 hS
  clear F2 N2
  dsimp only
  by_cases he : Txt.startswith got x = true
  · have hle := startswith_le he
    k_steps
    all_goals first | (exfalso; have hz : Txt.startswith got x = false := (by assumption); rw [he] at hz; cases hz; done) | (exfalso; omega) | skip
    with_reducible rename Fr h₀ _ _ _ => Fe
    exact hret _ [] _ _ Fe News.nil (G.back (by assumption) News.nil) ⟨rfl, by rw [he]⟩
  · have hf : Txt.startswith got x = false := by simpa using he
    k_steps
    all_goals first | (exfalso; exact he (by assumption)) | (exfalso; omega) | skip
    with_reducible rename Fr h₀ _ _ _ => Fe
    exact hret _ [] _ _ Fe News.nil (G.back (by assumption) News.nil) ⟨rfl, by rw [hf]⟩
theorem em_nil (w : World) (mean : ExcName → Option Value) (mg mb : Str → Option Value) (want x got : Str) (tw tg : Tok) (hw : want = dots ++ x) (hx : 46 ∉ x.cps.toList) (hx0 : x = Str.empty) (hx1 : x.length < 100) (hg : got.length < 100) :
    CallOk w mean mg mb [] 2 70 [.str want tw, .str got tg] (fun r nw => nw = [] ∧ r = .bool (true)) := by
  have hc : (Builtin.Str.occurrences want dots 0 want.length 1).isEmpty = false := by rw [hw]; exact has_pre x
  have hwl : want.length = 3 := by rw [hw, hx0, Str.length_append, dots_len, empty_len]
  unfold CallOk
  intro dp un gd cn cs a' ccd cl outer A₀ base h₀ L m s Q E B F X N T hk hdp hun hret
  refine wpAny_call ?_
  (refine' enter_K ?k1 ?k2 ?k3 ?k4 ?k5 ?kA ?kF ?kK ?k6 ?k7 ?k8 ?k9 ?kB ?_ ?c2 ?c3 ?c4 ?c5; (case kA => exact rfl); (case kF => exact rfl); (case kK => assumption); (case k1 => k_asm); (case k2 => k_asm); (case k3 => k_asm); (case k4 => k_asm); (case k5 => k_asm); (case k6 => k_is); (case k7 => k_is); (case k8 => first | exact room0 hdp | ktr_room); (case k9 => exact BindsTo.of_eq rfl); (case c5 => decide); (case kB => exact locs rfl); (case c2 => exact rfl); (case c3 => exact rfl); (case c4 => exact rfl); k_whole; intro g L' h' G FG F' N' B' X' T' l1; (try dsimp only); (try k_fold))
  repeat' (first | (k_unfold; (try dsimp only)) | ((fail_if_success (with_reducible show wpAny _ _ (call (Value.builtin "str.split") _) _ _ _)); first | walk1 | (dsimp only; walk1)))
  all_goals first | (exfalso; have hz : (Builtin.Str.occurrences want (Str.ofString "...") 0 want.length 1).isEmpty = true := (by assumption); rw [hc] at hz; cases hz; done) | skip
  with_reducible rename Fr _ _ _ _ => F2
  with_reducible rename News _ _ _ _ => N2
  refine KSpl.split1 F2 N2 (by decide +kernel) ?_ (by rw [hwl, sizeLine_eq]; omega)
  intro D l h1 k1 el hS F3 N3 lD
  rw [hw, split_pre hx, hx0] at el
  obtain ⟨e0, he0⟩ : ∃ e0, e0 = Str.empty := ⟨_, rfl⟩
  have hl0 : e0.length = 0 := by rw [he0]; exact empty_len
  rw [← he0] at el
  obtain ⟨ta, l', rfl, el'⟩ := KSpl.cons_of el
  obtain ⟨tb, l'', rfl, el''⟩ := KSpl.cons_of el'
  have := KSpl.nil_of el''
  subst this
  simp only [strValues, List.map_cons, List.map_nil] at N3 hS
  clear F2 N2
  dsimp only
  k_steps
  all_goals first | (exfalso; omega) | skip
  · with_reducible rename Fr h₀ _ _ _ => Fe
    exact hret _ [] _ _ Fe News.nil (G.back (by assumption) News.nil) ⟨rfl, rfl⟩
end Mine
end
-- BCTabD
section
open PySem PySem.W PyProof.Rows PySem.Calls
set_option maxRecDepth 100000
namespace Mine
theorem Tabs.data {t : Ledg} (ht : Tabs t) : ∀ p ∈ t, ∃ vs, p.2.data = .fields vs := by
  obtain ⟨p1, e1, p2, e2, t1, t2, rfl⟩ := ht.is
  intro p hp
  rcases List.mem_append.mp hp with hp | hp
  · rcases List.mem_cons.mp hp with rfl | hp
    · exact ⟨_, rfl⟩
    · obtain ⟨vs, _, a, _⟩ := t1.mem hp; exact ⟨vs, a⟩
  · rcases List.mem_cons.mp hp with rfl | hp
    · exact ⟨_, rfl⟩
    · obtain ⟨vs, _, a, _⟩ := t2.mem hp; exact ⟨vs, a⟩
def NoF : Ledg → Prop
  | [] => True
  | q :: r => (∀ vs, q.2.data ≠ .fields vs) ∧ NoF r
theorem NoF.mem : ∀ {r : Ledg}, NoF r → ∀ q ∈ r, ∀ vs, q.2.data ≠ .fields vs
  | [], _, _, h => nomatch h
  | _ :: _, x, q, h => by
    rcases List.mem_cons.mp h with rfl | h
    · exact x.1
    · exact NoF.mem x.2 q h
theorem NoF.app : ∀ {a b : Ledg}, NoF a → NoF b → NoF (a ++ b)
  | [], _, _, h => h
  | _ :: _, _, x, y => ⟨x.1, NoF.app x.2 y⟩
theorem NoF.of : ∀ {r : Ledg}, (∀ q ∈ r, ∀ vs, q.2.data ≠ .fields vs) → NoF r
  | [], _ => trivial
  | _ :: _, h => ⟨h _ (.head _), NoF.of fun q hq => h q (.tail _ hq)⟩
/-- none of the facts speaks of the tables -/
theorem dis_tabs {t rest : Ledg} (ht : Tabs t) (hn : NoF rest) {h₀ : Heap} {L : Addr} {h : Heap} (N : News h₀ L h (t ++ rest)) : ∀ p ∈ rest, p.1 ∉ t.map (·.1) := by
  intro p hp hm
  obtain ⟨q, hq, e⟩ := List.mem_map.mp hm
  have so := sameObj N (List.mem_append_left _ hq) (List.mem_append_right _ hp) e
  obtain ⟨vs, hd⟩ := ht.data q hq
  exact hn.mem p hp vs (so ▸ hd)
theorem dis_cons {D : Addr} {o : Obj} {t rest : Ledg} (ht : Tabs t) (h1 : ∀ q ∈ rest, q.1 ≠ D) (hn : NoF rest) {h₀ : Heap} {L : Addr} {h : Heap} (N : News h₀ L h (((D, o) :: t) ++ rest)) : ∀ p ∈ rest, p.1 ∉ ((D, o) :: t).map (·.1) := by
  intro p hp hm
  rcases List.mem_cons.mp hm with e | hm
  · exact h1 p hp e
  · exact dis_tabs ht hn (fun q hq => N q (.tail _ hq)) p hp hm
end Mine
end
-- BCompI
section
open PySem PySem.W PyProof.Rows PySem.Calls
open PyProof.Rows.LCg PyProof.Rows.LCp
set_option maxRecDepth 100000
namespace Mine
section
variable {prog : Program} {w : World} {A : Around} {h₀ : Heap} {L : Addr} {m : Str → Option Value} {env : Env} {elt : Expr} {x x₂ : Str} {scope : Scope} {cl : List (Str × Addr)} {s : Shared} {S : Ledg → Prop} {P : Nat → Value → Prop} {Fin : List Value → Ledg → Prop}
theorem CompEnd.mono {s₁ s₂ : Shared} {I C D : Addr} {oI oC oD : Obj} {r1 r2 : Value → Ledg → Prop} {y : Value} (h : CompEnd h₀ L m s₁ I oI C oC D oD S r1 y s₂) (k : ∀ n, r1 y n → r2 y n) : CompEnd h₀ L m s₁ I oI C oC D oD S r2 y s₂ :=
  let ⟨h', tk, nw, e, F, N, off, hS, r⟩ := h; ⟨h', tk, nw, e, F, N, off, hS, k _ r⟩
theorem comp_ind (n : Nat) (J : Nat → List Value → Ledg → Prop) (base : ∀ ys news, J n ys news → Fin ys news)
    (step : ∀ i ys news, i < n → J i ys news → ∀ v I oI C oC D m₂ h tk (E' : Value → Shared → Prop), P i v → NsObj oC m₂ → m₂ x = some v → Fr h₀ L h m → News h₀ L h ((I, oI) :: (C, oC) :: (D, lst ys) :: news) → Off3 I C D news → ((@Ne Nat I C) ∧ (@Ne Nat I D) ∧ (@Ne Nat C D)) →
      wpAny (model prog w) A (eval elt (compEnvC scope cl C env)) (CompEnd h₀ L m { s with heap := h, toks := tk } I oI C oC D (lst ys) S (fun y news' => J (i + 1) (ys ++ [y]) news')) E' { s with heap := h, toks := tk }) :
    ∀ k i ys news, i + k = n → J i ys news → CompRest prog w A h₀ L m env elt x scope cl s S P Fin k i ys news
  | 0, i, ys, news, e, h => base ys news (by rw [Nat.add_zero] at e; exact e ▸ h)
  | k + 1, i, ys, news, e, h => fun v I oI C oC D m₂ h' tk E' hP hC hx F N off ne => wpAny_mono (step i ys news (by omega) h v I oI C oC D m₂ h' tk E' hP hC hx F N off ne)
      (fun y s₂ q => CompEnd.mono q fun nw r => comp_ind n J base step k (i + 1) _ nw (by omega) r) fun _ _ e => e
theorem compP_ind (n : Nat) (J : Nat → List Value → Ledg → Prop) (base : ∀ ys news, J n ys news → Fin ys news)
    (step : ∀ i ys news, i < n → J i ys news → ∀ v, P i v → ∃ (t : Addr) (ot : Obj) (v₁ v₂ : Value) (nt : Nat), v = .ref t ∧ (t, ot) ∈ news ∧ ot.cls = .type "tuple" ∧ ot.data = .seq #[v₁, v₂] nt ∧
      ∀ I oI C oC D m₂ h tk (E' : Value → Shared → Prop), NsObj oC m₂ → m₂ x = some v₁ → m₂ x₂ = some v₂ → Fr h₀ L h m → News h₀ L h ((I, oI) :: (C, oC) :: (D, lst ys) :: news) → Off3 I C D news → ((@Ne Nat I C) ∧ (@Ne Nat I D) ∧ (@Ne Nat C D)) →
      wpAny (model prog w) A (eval elt (compEnvC scope cl C env)) (CompEnd h₀ L m { s with heap := h, toks := tk } I oI C oC D (lst ys) S (fun y news' => J (i + 1) (ys ++ [y]) news')) E' { s with heap := h, toks := tk }) :
    ∀ k i ys news, i + k = n → J i ys news → CompRestP prog w A h₀ L m env elt x x₂ scope cl s S P Fin k i ys news
  | 0, i, ys, news, e, h => base ys news (by rw [Nat.add_zero] at e; exact e ▸ h)
  | k + 1, i, ys, news, e, h => fun v hP => by
    obtain ⟨t, ot, v₁, v₂, nt, e1, e2, e3, e4, st⟩ := step i ys news (by omega) h v hP
    exact ⟨t, ot, v₁, v₂, nt, e1, e2, e3, e4, fun I oI C oC D m₂ h' tk E' hC hx hx2 F N off ne => wpAny_mono (st I oI C oC D m₂ h' tk E' hC hx hx2 F N off ne)
      (fun y s₂ q => CompEnd.mono q fun nw r => compP_ind n J base step k (i + 1) _ nw (by omega) r) fun _ _ e => e⟩
end
end Mine
end
-- BFrS
section
open PySem PySem.W PyProof.Rows PySem.Calls
namespace Mine
/-- a call that leaves what it was told as it stood leaves the rest too -/
theorem CallOk.frameSame {w : World} {mean : ExcName → Option Value} {mg mb : Str → Option Value} {news : Ledg} {D : Nat} {f : Addr} {args : List Value} {Post : Value → Ledg → Prop} (C : CallOk w mean mg mb news D f args Post) (hs : ∀ r nw, Post r nw → nw = news) (rest : Ledg) :
    CallOk w mean mg mb (news ++ rest) D f args (fun r nw => nw = news ++ rest ∧ Post r news) := by
  intro dp un gd cn cs a' ccd cl outer A₀ base h₀ L m s Q E B F X N T hk hdp hun hret
  refine C.use B F X (fun p hp => N p (List.mem_append_left _ hp)) T hk hdp hun fun r news' h' tk' F' N' K' hp => ?_
  have e := hs _ _ hp
  subst e
  refine hret r (news' ++ rest) h' tk' F' (fun p hp => ?_) (K'.frame N) ⟨rfl, hp⟩
  rcases List.mem_append.mp hp with hp | hp
  · exact N' p hp
  · by_cases hm : p.1 ∈ news'.map (·.1)
    · obtain ⟨q, hq, e⟩ := List.mem_map.mp hm
      have so := sameObj N (List.mem_append_left _ hq) (List.mem_append_right _ hp) e
      have z := N' q hq
      have ep : q = p := Prod.ext e so
      rw [← ep]; exact z
    · exact ⟨K'.keep p.1 p.2 (N p (List.mem_append_right _ hp)).1 hm, (N p (List.mem_append_right _ hp)).2⟩
end Mine
end
-- BCAcc
section
open PySem PySem.W PyProof.Rows PySem.Calls
set_option maxRecDepth 100000
set_option maxHeartbeats 8000000
namespace Mine
theorem off7 : True := by
  w_top off
  k_with_none
  exact trivial
theorem fill10 : (Challenge.rw_re0104_02, hd.heap_1) = (Challenge.rw_re0104_02, hd.heap_1) := by
  k_fill
  rfl
/-- a row: an instance of the list's subclass -/
abbrev accObj (dx : Addr) (its : Array Value) (n : Nat) : Obj := { cls := .ref 150, dict := some dx, data := .seq its n }
section
variable {prog : Program} {w : World} {A : Around} {E : Value → Shared → Prop} {s : Shared} {K : Frag} {C x : Addr} {ox : Obj} {od : Option Obj} {name : Str}
theorem check_any {i owner n : String} {self : Value} {rest : List Value} {kw : List (Str × Value)} {Q : Unit → Shared → Prop}
    (hk : builtinKind i = some .slot ∨ builtinKind i = some .method) (hs : splitId i = some (owner, n)) (hi : Looks (model prog w) s.heap (isInstance self (.type owner)) true) (ha : argsOk i ⟨self :: rest, kw⟩) (q : Q () s) :
    wpAny (model prog w) A (checkBuiltinCall i ⟨self :: rest, kw⟩) Q E s := by
  rcases hk with hk | hk
  · exact check_slot hk hs hi ha q
  · simp only [checkBuiltinCall, hk, hs]
    refine wpAny_bind (hi.here ?_)
    simp only [Bool.not_true, Bool.false_eq_true, if_false]
    cases hsig : Manifest.signature? i with
    | none => exact wpAny_pure q
    | some sig =>
      simp only [argsOk, hsig] at ha
      have h2 : Bind.checkArgs i sig ⟨self :: rest, kw⟩ = pure () := ha
      show wpAny (model prog w) A (Bind.checkArgs i sig ⟨self :: rest, kw⟩) Q E s
      rw [h2]; exact wpAny_pure q
theorem call_sub {id owner n : String} {b : Builtin} {self : Value} {rest : List Value} {Q : Value → Shared → Prop} (hk : builtinKind id = some .slot ∨ builtinKind id = some .method) (hs : splitId id = some (owner, n)) (hp : plainId id = true) (hb : entryFor table id = some b)
    (hi : Looks (model prog w) s.heap (isInstance self (.type owner)) true) (ha : argsOk id ⟨self :: rest, []⟩) (hc : wpAny (model prog w) A.in1 (b ⟨self :: rest, []⟩) (fun fin s' => ∃ v, fin = .done (.ret v) ∧ Q v s') E s) :
    wpAny (model prog w) A (call (.builtin id) (self :: rest)) Q E s := by
  refine wpAny_call (codeAny_call_builtin hp hb (check_any hk hs hi ha (wpAny_mono hc (fun fin s' h' => ?_) fun _ _ h' => h')))
  obtain ⟨v, rfl, hv⟩ := h'; exact hv
theorem method_bi {f : String} {pl : Sem Bool} {Q : Value × List Value → Shared → Prop} (X : K.In s.heap) (I : InstAt s.heap x ox C od) (hga : findIn K (.ref C) "__getattribute__" = some (some (.builtin "list.__getattribute__"))) (hcan : (Manifest.canonical "list.__getattribute__" != "object.__getattribute__") = false) (hk : findIn K (.ref C) "__getattr__" = some none)
    (hf : findIn K (.ref C) name = some (some (.builtin f))) (ht : typeOf (.builtin f) = pure (.type "method_descriptor")) (hs : shadowIn od name = some false) (h : Q (.builtin f, [.ref x]) s) :
    wpAny (model prog w) A (getMethod (.ref x) name pl) Q E s := by
  unfold getMethod specialOf
  refine wpAny_bind (wpAny_bind (I.type.here ((looks_findIn X hga).here ?_)))
  dsimp only
  rw [hcan, if_neg (by decide)]
  refine wpAny_bind (wpAny_bind (I.type.here ((looks_findIn X hk).here ?_)))
  refine wpAny_bind (wpAny_bind (I.type.here ((looks_findIn X hf).here (wpAny_bind (wpAny_of_eq ht ?_)))))
  rw [if_neg (by decide +kernel)]
  refine wpAny_bind (wpAny_loadPart I.at_ ?_)
  have hd := I.dict
  cases e : ox.dict with
  | none => exact wpAny_bind (wpAny_rule (wpAny_pure h))
  | some dx =>
    cases od with
    | none => rw [e] at hd; exact hd.elim
    | some o =>
      rw [e] at hd
      obtain ⟨r, a, b⟩ := Option.map_eq_some_iff.mp hs
      refine wpAny_bind (wpAny_bind (wpAny_loadPart hd ?_))
      rw [nsLook_of a]
      refine wpAny_pure ?_
      rw [b]
      exact wpAny_bind (wpAny_rule (wpAny_pure h))
end
theorem k_append (P : Params) : findIn (hd.heap_1 P) (.ref 150) "append" = some (some (.builtin "list.append")) := by kernel_rfl
theorem k_ga (P : Params) : findIn (hd.heap_1 P) (.ref 150) "__getattribute__" = some (some (.builtin "list.__getattribute__")) := by kernel_rfl
theorem k_gat (P : Params) : findIn (hd.heap_1 P) (.ref 150) "__getattr__" = some none := by kernel_rfl
theorem k_isl (P : Params) : mroIn (hd.heap_1 P) 150 (.type "list") = some true := by kernel_rfl
theorem canon_lga : (Manifest.canonical "list.__getattribute__" != "object.__getattribute__") = false := by decide +kernel
section
variable {w : World} {A : Around} {E : Value → Shared → Prop} {s : Shared} {h₀ : Heap} {L x dx : Addr} {m : Str → Option Value} {news news' : Ledg} {its : Array Value} {n : Nat}
theorem accInst {h : Heap} {o : Obj} (h1 : h.get? x = some (accObj dx its n)) (h2 : h.get? dx = some o) : InstAt h x (accObj dx its n) 150 (some o) := ⟨h1, rfl, rfl, h2⟩
theorem acc_isList {h : Heap} {o : Obj} (X : (hd.heap_1 w.params).In h) (h1 : h.get? x = some (accObj dx its n)) (h2 : h.get? dx = some o) : Looks (model Challenge.rw_re0104_02.row.prog w) h (isInstance (.ref x) (.type "list")) true :=
  (accInst h1 h2).type.andThen (looks_mroIn X (k_isl _))
theorem acc_append {o : Obj} {v : Value} {Q : Value → Shared → Prop} (F : Fr h₀ L s.heap m) (X : (hd.heap_1 w.params).In h₀) (N : News h₀ L s.heap news) (U : Upd x (accObj dx its n) (accObj dx (its.push v) (n + 1)) news news') (hdx : (dx, o) ∈ news)
    (h : ∀ h', Fr h₀ L h' m → News h₀ L h' news' → Q .none { s with heap := h' }) (hsz : its.size ≤ sizeLine) : wpAny (model Challenge.rw_re0104_02.row.prog w) A (call (.builtin "list.append") [.ref x, v]) Q E s := by
  obtain ⟨pre, post, rfl, rfl, a, b⟩ := U.split
  have z := N (x, accObj dx its n) (List.mem_append.mpr (.inr (.head _)))
  refine call_sub (owner := "list") (n := "append") (.inr (by decide +kernel)) (by decide +kernel) (by decide +kernel) PySem.F.entry_list_append (acc_isList (X.keeps F.keep) z.1 (N _ hdx).1) (PySem.F.args_list_append_2 _ _) ?_
  show wpAny _ _ (updateSeq x (·.push v) >>= fun _ => ret .none) _ _ s
  refine wpAny_bind (wpAny_updateSeq z.1 rfl (wpAny_pure ⟨.none, rfl, h _ (F.change (Heap.SameBut.update ..) z.2.1 z.2.2) ?_⟩))
  refine news_set N a b (Heap.SameBut.update ..) ?_
  have e : Obj.mapSeq (·.push v) (accObj dx its n) = accObj dx (its.push v) (n + 1) := by simp [Obj.mapSeq]
  rw [← e]
  exact Heap.get?_update_self _ z.1 (by rw [e]; rfl)
end
theorem lineCAcc1 : True := by
  k_with "getMethod ref" => (k_here; (with_reducible show wpAny _ _ (getMethod (Value.ref _) (PySem.Str.ofString "append") _) _ _ _); k_dflt (refine' method_bi ?zx ?zi (k_ga _) canon_lga (k_gat _) (k_append _) ?zt ?zs ?_; (case zx => k_in); (case zi => exact accInst (News.get (by k_asm) (by k_mem)) (News.get (by k_asm) (by k_mem))); (case zt => exact type_list_append); (case zs => first | rfl | assumption); k_whole))
  exact trivial
theorem lineCAcc2 : True := by
  k_with "call builtin:list.append" => (k_here; (with_reducible show wpAny _ _ (call (Value.builtin _) [Value.ref _, _]) _ _ _); k_dflt (refine' acc_append ?zF ?zX ?zN ?zU ?zd ?_ ?zz; (case zF => k_asm); (case zX => k_asm); (case zN => k_asm); (case zU => k_upd); (case zd => k_mem); (case zz => first | assumption | (rw [List.size_toArray]; assumption)); k_whole); intro kzh kzF kzN)
  exact trivial
theorem push_ok (w : World) (mean : ExcName → Option Value) (mg mb : Str → Option Value) (x dx : Addr) (its : List Value) (n : Nat) (dob : Obj) (a b : Str) (ta tb : Tok) (hdx : dx ≠ x) (hsh : shadowIn (some dob) "append" = some false) (hsz : its.length ≤ sizeLine) :
    CallOk w mean mg mb [(x, accObj dx its.toArray n), (dx, dob)] 3 94 [.ref x, .str a ta, .str b tb] (fun r nw => ∃ q, r = .none ∧ nw = [(x, accObj dx (its ++ [Value.ref q]).toArray (n + 1)), (dx, dob), (q, tup2 (.str a ta) (.str b tb))]) := by
  unfold CallOk
  intro dp un gd cn cs a' ccd cl outer A₀ base h₀ L m s Q E B F X N T hk hdp hun hret
  refine wpAny_call ?_
  (refine' enter_K ?k1 ?k2 ?k3 ?k4 ?k5 ?kA ?kF ?kK ?k6 ?k7 ?k8 ?k9 ?kB ?_ ?c2 ?c3 ?c4 ?c5; (case kA => exact rfl); (case kF => exact rfl); (case kK => assumption); (case k1 => k_asm); (case k2 => k_asm); (case k3 => k_asm); (case k4 => k_asm); (case k5 => k_asm); (case k6 => k_is); (case k7 => k_is); (case k8 => first | exact room0 hdp | ktr_room); (case k9 => exact BindsTo.of_eq rfl); (case c5 => decide); (case kB => exact locs rfl); (case c2 => exact rfl); (case c3 => exact rfl); (case c4 => exact rfl); k_whole; intro g L' h' G FG F' N' B' X' T' l1; (try dsimp only); (try k_fold))
  k_steps
  with_reducible rename Fr h₀ _ _ _ => Fe
  with_reducible rename News h₀ _ _ _ => Ne
  with_reducible rename News g _ _ _ => Ng
  try simp only [List.push_toArray] at Ne Ng
  obtain ⟨q, hq⟩ := headOf Ne
  subst hq
  refine hret _ [(x, accObj dx (its ++ [Value.ref q]).toArray (n + 1)), (dx, dob), (q, tup2 (.str a ta) (.str b tb))] _ _ Fe (newsSub Ne (by kcj_all)) (G.back (by assumption) (newsSub Ng (by kcj_all))) ⟨q, rfl, rfl⟩
end Mine
end
-- BCIter
section
open PySem PySem.W PyProof.Rows PySem.Calls
set_option maxRecDepth 100000
set_option maxHeartbeats 4000000
namespace Mine
def SeqAt (h : Heap) (l : Addr) (items : Array Value) : Prop := ∃ o, h.get? l = some o ∧ ∃ n, o.data = .seq items n
theorem SeqAt.to {h h' : Heap} {l : Addr} {items : Array Value} (S : SeqAt h l items) (k : ∀ o, h.get? l = some o → h'.get? l = some o) : SeqAt h' l items := let ⟨o, a, b⟩ := S; ⟨o, k _ a, b⟩
section
variable {prog : Program} {w : World} {A : Around} {E : Value → Shared → Prop} {s : Shared}
theorem acc_next {it l : Addr} {i : Nat} {items} {x : Value} {Q : Option Value → Shared → Prop} (hit : s.heap.IsListIter it l i) (hl : SeqAt s.heap l items) (hx : items[i]? = some x)
    (hQ : ∀ h', h'.IsListIter it l (i + 1) → Heap.SameBut it s.heap h' → Q (some x) { s with heap := h' }) : wpAny (model prog w) A (pyNext (.ref it)) Q E s := by
  obtain ⟨o, ho, hc, hd⟩ := id hit
  obtain ⟨ol, hol, nl, hdl⟩ := hl
  unfold pyNext
  refine wpAny_bind (wpAny_attempt (wpAny_callSpecial?_slot (name := Str.ofString "__next__") hit.typeIs slot_listiter_next (wpAny_call_entry slot_listiter_next hit.typeIs entry_listiter_next ?_ (args_listiter_next _))))
  show wpAny _ _ (field (.ref it) 0 >>= _) _ _ s
  refine wpAny_bind (wpAny_field ho hd (x := .ref l) rfl ?_)
  show wpAny _ _ (if (Value.ref l == Value.none) = true then _ else _) _ _ s
  rw [if_neg (show ¬ ((Value.ref l == Value.none) = true) from Bool.false_ne_true)]
  show wpAny _ _ (field (.ref it) 1 >>= _) _ _ s
  refine wpAny_bind (wpAny_field ho hd (x := .int i 0) rfl ?_)
  show wpAny _ _ (seqItems? (.ref l) >>= _) _ _ s
  refine wpAny_bind (wpAny_seqItems hol hdl ?_)
  simp only [Int.toNat_natCast, hx]
  refine wpAny_bind (wpAny_setField ho hd (by simp) (wpAny_pure ⟨x, rfl, wpAny_pure (hQ _ ?_ (Heap.SameBut.update ..))⟩))
  exact ⟨_, Heap.get?_update_self _ ho (Obj.isFreed_of_fields (Obj.data_mapFields hd _)), (Obj.cls_mapFields ..).trans hc, by rw [Obj.data_mapFields hd]; simp [rawInt]⟩
theorem acc_end {it l : Addr} {i : Nat} {items} {Q : Option Value → Shared → Prop} (hh : A.handled = none) (hit : s.heap.IsListIter it l i) (hl : SeqAt s.heap l items) (hx : items[i]? = none)
    (hQ : ∀ h', Heap.ExtBut it s.heap h' → Q none { s with heap := h' }) : wpAny (model prog w) A (pyNext (.ref it)) Q E s := by
  obtain ⟨o, ho, hc, hd⟩ := id hit
  obtain ⟨ol, hol, nl, hdl⟩ := hl
  unfold pyNext
  refine wpAny_bind (wpAny_attempt (wpAny_callSpecial?_slot (name := Str.ofString "__next__") hit.typeIs slot_listiter_next (wpAny_call_entry slot_listiter_next hit.typeIs entry_listiter_next ?_ (args_listiter_next _))))
  show wpAny _ _ (field (.ref it) 0 >>= _) _ _ s
  refine wpAny_bind (wpAny_field ho hd (x := .ref l) rfl ?_)
  show wpAny _ _ (if (Value.ref l == Value.none) = true then _ else _) _ _ s
  rw [if_neg (show ¬ ((Value.ref l == Value.none) = true) from Bool.false_ne_true)]
  show wpAny _ _ (field (.ref it) 1 >>= _) _ _ s
  refine wpAny_bind (wpAny_field ho hd (x := .int i 0) rfl ?_)
  show wpAny _ _ (seqItems? (.ref l) >>= _) _ _ s
  refine wpAny_bind (wpAny_seqItems hol hdl ?_)
  simp only [Int.toNat_natCast, hx]
  refine wpAny_bind (wpAny_rule (wpAny_bind (wpAny_setField ho hd (by simp) ?_)))
  show wpAny _ _ (newExc (.type "StopIteration") [] >>= _) _ _ _
  refine wpAny_bind ?_
  simp only [newExc, newTuple]
  refine wpAny_bind (wpAny_newObj_type ?_ (by size_fits))
  refine wpAny_bind (m := firstArgMember _ _) (wpAny_of_eq (a := Value.none) (by first | rfl | (simp only [firstArgMember]; rfl)) ?_)
  refine wpAny_newObj_type ?_ (by size_fits)
  simp only [raiseNew]
  refine wpAny_bind (wpAny_handled ?_)
  rw [show A.in1.handled = none from hh]
  refine wpAny_bind (wpAny_pure (wpAny_throw ?_))
  refine wpAny_bind (wpAny_isInstance (T := "StopIteration") (b := true) ⟨_, Heap.get?_push_size _ rfl, rfl⟩ isSubtype_stop ?_)
  exact wpAny_pure (hQ _ (((Heap.SameBut.update ..).extBut.push _).push _))
theorem walksAcc (hh : A.handled = none) (I ax : Addr) (hne : ax ≠ I) (items : Array Value) (Ts : Nat → Addr) (vals : Nat → Array Value)
    (hit : ∀ j, j < items.size → items[j]? = some (.ref (Ts j))) (hTI : ∀ j, j < items.size → Ts j ≠ I) :
    WalksU prog w A I (I :: ax :: (List.range items.size).map Ts) [I] items.size (fun j v => v = vals j)
      (fun j h => h.IsListIter I ax j ∧ SeqAt h ax items ∧ ∀ k, k < items.size → h.IsTuple (Ts k) (vals k))
      (fun j T h => (j < items.size ∧ T = Ts j) ∧ h.IsListIter I ax (j + 1) ∧ SeqAt h ax items ∧ ∀ k, k < items.size → h.IsTuple (Ts k) (vals k)) where
  sub := fun b hb => by simp at hb; simp [hb]
  frame := fun _ _ _ st hk => ⟨st.1.at fun o e => hk I (by simp) o e, st.2.1.to fun o e => hk ax (by simp) o e,
    fun k hk' => (st.2.2 k hk').at fun o e => hk (Ts k) (List.mem_cons_of_mem _ (List.mem_cons_of_mem _ (List.mem_map.mpr ⟨k, List.mem_range.mpr hk', rfl⟩))) o e⟩
  item := fun i s Q E hi st hQ => by
    refine acc_next st.1 st.2.1 (x := .ref (Ts i)) (hit i hi) fun h' hit' hs' => ?_
    have tup : ∀ k, k < items.size → h'.IsTuple (Ts k) (vals k) := fun k hk' => (st.2.2 k hk').extBut hs'.extBut (hTI k hk')
    exact hQ (Ts i) (vals i) h' s.toks rfl (tup i hi) ⟨⟨hi, rfl⟩, hit', st.2.1.to fun o e => hs'.extBut _ _ hne e, tup⟩ fun b o hb e => hs'.extBut b o (fun h => hb (by simp [h])) e
  go := fun _ _ _ _ _ s Q _ hm hQ => wpAny_letOwnedTupleGo_listiter hm.2.1 (hQ s.heap hm.2 fun _ _ _ e => e)
  apart := fun j T _ hm hmem => by
    rcases List.mem_cons.mp hmem with e | e
    · exact hTI j hm.1.1 (hm.1.2 ▸ e)
    · cases e
  done := fun s Q E st hQ => acc_end hh st.1 st.2.1 (by simp) fun h' he' => hQ h' s.toks fun b o hb e => he' b o (fun h => hb (by simp [h])) e
  self := fun _ _ _ _ st hQ => wpAny_pyIter_listiter st.1 hQ
end
theorem k_iter (P : Params) : findIn (hd.heap_1 P) (.ref 150) "__iter__" = some (some (.builtin "list.__iter__")) := by kernel_rfl
section
variable {w : World} {A : Around} {E : Value → Shared → Prop} {s : Shared} {x dx : Addr} {its : Array Value} {n : Nat} {o : Obj}
theorem acc_iter {Q : Value → Shared → Prop} (X : (hd.heap_1 w.params).In s.heap) (h1 : s.heap.get? x = some (accObj dx its n)) (h2 : s.heap.get? dx = some o)
    (hQ : Q (.ref s.heap.objs.size) { s with heap := s.heap.push { cls := .type "list_iterator", data := .fields #[.ref x, .int 0 0] } }) :
    wpAny (model Challenge.rw_re0104_02.row.prog w) A (pyIter (.ref x)) Q E s := by
  have I := accInst h1 h2
  have fin : wpAny (model Challenge.rw_re0104_02.row.prog w) A (call (.builtin "list.__iter__") [.ref x]) (fun it s' => (∃ T' r, s'.TypeIs it T' ∧ typeLookup (.type T') "__next__" = pure (some r)) ∧ Q it s') E s := by
    refine call_sub (owner := "list") (n := "__iter__") (.inl (by decide +kernel)) (by decide +kernel) (by decide +kernel) entry_list_iter (acc_isList X h1 h2) (args_list_iter _) ?_
    show wpAny _ _ (do ret (← newFields "list_iterator" [.ref x, rawInt 0])) _ _ s
    exact wpAny_bind (wpAny_newObj_type (wpAny_pure ⟨_, rfl, ⟨"list_iterator", _, ⟨_, Heap.get?_push_size _ rfl, rfl⟩, slot_listiter_next.lookup⟩, hQ⟩))
  unfold pyIter
  refine wpAny_bind (wpAny_bind (I.type.here ((looks_findIn X (k_iter _)).here ?_)))
  show wpAny _ A (callSpecialIfBoundUnlessNone? (.ref x) "__iter__" _ >>= _) Q E s
  simp only [callSpecialIfBoundUnlessNone?, bindSpecialIfBound?]
  refine wpAny_bind (wpAny_holding (wpAny_bind (wpAny_bind (wpAny_bind (I.type.here ((looks_findIn X (k_iter _)).here ?_))))))
  simp only [slot_list_iter.bind]
  refine wpAny_bind (wpAny_askSetting (wpAny_ite ?_))
  have back : ∀ {refuse : Sem Value}, wpAny (model Challenge.rw_re0104_02.row.prog w) A (if (Value.builtin "list.__iter__" == Value.none) = true then (refuse >>= fun v => pure (some v)) else (call (.builtin "list.__iter__") [.ref x] >>= fun v => pure (some v)))
      (fun r s' => ∃ it, r = some it ∧ (∃ T' r, s'.TypeIs it T' ∧ typeLookup (.type T') "__next__" = pure (some r)) ∧ Q it s') E s := by
    intro refuse
    simp only [builtin_beq_none, Bool.false_eq_true, if_false]
    exact wpAny_bind (wpAny_mono fin (fun v s' h' => wpAny_pure ⟨v, rfl, h'⟩) fun _ _ h' => h')
  have post : ∀ (r : Option Value) s', (∃ it, r = some it ∧ (∃ T' r, s'.TypeIs it T' ∧ typeLookup (.type T') "__next__" = pure (some r)) ∧ Q it s') →
      wpAny (model Challenge.rw_re0104_02.row.prog w) A (match r with
        | some it => specialOf it "__next__" >>= fun r => match r with
          | none => (do rule "iter.non-iterator"; raiseError "TypeError" s!"iter() returned non-iterator of type '{← typeNameOf it}'")
          | some _ => pure it
        | none => bindSpecialIfBound? (.ref x) "__getitem__" >>= fun r => match r with
          | none => (do rule "iter.not-iterable"; raiseError "TypeError" s!"'{← typeNameOf (.ref x)}' object is not iterable")
          | some _ => (do rule "iter.getitem-fallback"; newFields "iterator" [.ref x, ← mkInt 0])) Q E s' := by
    rintro r s' ⟨it, rfl, ⟨T', r', hT', hl⟩, hq⟩
    exact wpAny_bind (wpAny_specialOf hT' hl (wpAny_pure hq))
  split
  · exact wpAny_bind (wpAny_pure (wpAny_pure (wpAny_mono back (fun r s' h => post r s' h) fun _ _ e => e)))
  · exact wpAny_tryCatch (wpAny_bind (wpAny_pure (wpAny_pure (wpAny_mono back (fun r s' h => post r s' h) fun _ _ e => e))))
end
end Mine
end
-- BCGen
section
open PySem PySem.W PyProof.Rows PySem.Calls
set_option maxRecDepth 100000
set_option maxHeartbeats 4000000
namespace Mine
section
variable {prog : Program} {w : World} {M : Model} {A : Around} {E : Value → Shared → Prop} {s : Shared} {h₀ : Heap} {L c P : Addr} {m mg mb : Str → Option Value} {p : Program} {loose : List Str} {mean : ExcName → Option Value} {rest : Ledg} {line col : Nat} {q : Str} {ps : Array Value} {ex : Ledg}
theorem gcode_hit {env : Env} {pos : Pos} {cv : Value} {qn : Str} {scope : Scope} {Q : Value → Shared → Prop} (hc : env.code = .ref c) (hok : s.heap.IsCode c P ps) (hf : codeAmong pos ps.toList = some cv) (h : Q cv s) : wpAny M A (genexprCode env pos qn scope) Q E s := by
  obtain ⟨o, vs, file, tf, flags, tg, inF, text, tt, op, ho, hd, h11, h2, h7, h9, h10, hop, hpd, htr, hne⟩ := id hok
  unfold genexprCode codeAt
  rw [hc, if_neg (show ¬ ((Value.ref c == Value.none) = true) from Bool.false_ne_true)]
  refine wpAny_bind (wpAny_fieldsOf ho hd ?_)
  rw [h11]
  refine wpAny_bind (wpAny_fieldsOf hop hpd ?_)
  rw [hf]
  exact wpAny_pure h
theorem gcode {env : Env} {pos : Pos} {scope : Scope} {Q : Value → Shared → Prop} (F : Fr h₀ L s.heap m) (N : News h₀ L s.heap (((P, tabObj ps) :: ex) ++ rest)) (C : CodeHd h₀ c P) (hc : env.code = .ref c) (tab : Tab pos.line pos.col q ps ex) (hr : ∀ b ∈ rest, b.1 ≠ P)
    (h : ∀ c' h' tk ps' ex', Heap.ExtBut P s.heap h' → Fr h₀ L h' m → News h₀ L h' (((P, tabObj ps') :: ex') ++ rest) → Tab pos.line pos.col q ps' ex' → s.heap.objs.size ≤ h'.objs.size → (∀ b ∈ ex', b ∈ ex ∨ s.heap.objs.size ≤ b.1) → Q (.ref c') { s with heap := h', toks := tk }) :
    wpAny M A (genexprCode env pos q scope) Q E s := by
  have hm := N (P, tabObj ps) (.head _)
  have Cs := C.keeps F.keep
  cases tab with
  | @some cc oc vs t hd hv =>
    have ht : TriplesOk #[rawInt (pos.line : Int), rawInt (pos.col : Int), Value.ref cc].toList := by kn_triples
    refine gcode_hit hc (Cs.code hm.1 ht) (cv := .ref cc) (by simp [codeAmong, rawInt]) ?_
    exact h cc s.heap s.toks _ _ (Heap.ExtBut.refl _ _) F N (.some hd hv) (Nat.le_refl _) (fun b hb => .inl hb)
  | none =>
    refine wpAny_genexprCodeX hc (Cs.code hm.1 trivial) (Cs.tab hm.1) rfl fun c' h' tk hx hge hlt hcode hrec htab _ => ?_
    obtain ⟨c₂, oc, vs, t, e2, hoc, hd, hv⟩ := hrec
    cases e2
    have hLs : L < s.heap.objs.size := F.ns.lt
    have hLc : L < c' := Nat.lt_of_lt_of_le hLs hge
    have old : ∀ b o, h₀.get? b = some o → h'.get? b = some o := fun b o e => hx b o (fun q => by rw [q, hm.2.2] at e; cases e) (F.keep b o e)
    have hsz : s.heap.objs.size ≤ h'.objs.size := Nat.le_trans hge (Nat.le_of_lt hlt)
    refine h c' h' tk _ [(c', oc)] hx ⟨F.ns.extBut hx hm.2.1.symm, old, F.above⟩ (fun b hb => ?_) (.some hd hv) hsz (fun b hb => .inr (by rw [List.mem_singleton.mp hb]; exact hge))
    simp only [List.cons_append, List.nil_append] at hb
    rcases List.mem_cons.mp hb with rfl | hb
    · exact ⟨htab.2, hm.2⟩
    · rcases List.mem_cons.mp hb with rfl | hb
      · exact ⟨hoc, Nat.ne_of_gt hLc, Heap.get?_none_of_le (Nat.le_trans F.above (Nat.le_of_lt hLc))⟩
      · have n := N b (by simp [hb])
        exact ⟨hx _ _ (hr b hb) n.1, n.2⟩
end
/-- a generator that stands ready -/
def GenK (prog : Program) (w : World) (A : Around) (h₀ : Heap) (L a : Addr) (n : Nat) (Fp : Nat → Value → Prop) (news : Ledg) (s : Shared) : Prop :=
  ∃ fp wr g St, WalksS prog w A.in4 a fp wr (GenOnlyQ g) n Fp St ∧ St 0 s ∧ (∀ i s', St i s' → s'.TypeIs (.ref a) "generator") ∧ a ∈ fp ∧ (∀ b ∈ fp, b < s.heap.objs.size) ∧ (∀ b ∈ wr, L < b ∧ ∀ p ∈ news, p.1 ≠ b)
theorem passing_all (n : Nat) : passing (fun _ => true) n 0 = List.range n := by simp [passing]
section
variable {w : World} {A : Around} {E : Value → Shared → Prop} {s : Shared} {h₀ : Heap} {L c P x dx f : Addr} {m mg mb : Str → Option Value} {p : Program} {loose : List Str} {mean : ExcName → Option Value} {rest : Ledg} {q : Str} {ps : Array Value} {ex : Ledg}
abbrev PRG : Program := Challenge.rw_re0104_02.row.prog
theorem gen_K {name : Str} {fsc scope : Scope} {cl : List (Str × Addr)} {elt : Expr} {xa xb y : Str} {pa pb pt py pos : Pos} {kt n : Nat} {its : Array Value} {o : Obj} {Ts : Nat → Addr} {va vb : Nat → Value} {Fp : Nat → Value → Prop} {Q : Value → Shared → Prop}
    (F : Fr h₀ L s.heap m) (X : (hd.heap_1 w.params).In h₀) (N : News h₀ L s.heap (((P, tabObj ps) :: ex) ++ rest)) (T : Top p loose mean mg mb h₀) (C : CodeHd h₀ c P) (tab : Tab pos.line pos.col (name ++ ".<locals>." ++ "<genexpr>") ps ex) (hr : ∀ b ∈ rest, b.1 ≠ P) (hG : AllBare s.gens)
    (hh : A.handled = none) (hy : m y = some (.ref x)) (hx : (x, accObj dx its n) ∈ rest) (hdx : (dx, o) ∈ rest) (ht : ∀ j, j < its.size → its[j]? = some (.ref (Ts j)) ∧ (Ts j, tup2 (va j) (vb j)) ∈ rest)
    (hroom : A.depth < recursionLimit) (hco : scope.isCoroutine = false) (hclos : closureFor scope (envX name fsc L f (.ref c) cl) = pure []) (hcell : ∀ y ∈ scope.names, y.2 ≠ .cell) (h0 : scope.names.lookup (".0" : Str) = some NameKind.local)
    (hxa : scope.names.lookup xa = some .local) (hxb : scope.names.lookup xb = some .local) (hab : xa ≠ xb) (hkind : scope.kind = .function) (hfk : fsc.kind = .function) (hyl : fsc.names.lookup y = some .local) (hyd : (y == ("__debug__" : Str)) = false)
    (g2 : ∀ (Cl : Addr) (code : Value) (A' : Around) E' (i : Nat) (u : Shared) m₂, A'.handled = none → i < its.size → Fr h₀ Cl u.heap m₂ → m₂ xa = some (va i) → m₂ xb = some (vb i) →
      wpAny (model PRG w) A' (eval elt (genEnv scope [] Cl code builtinsNs (envX name fsc L f (.ref c) cl))) (fun y s₃ => Fp i y ∧ Keeps u s₃) E' u)
    (h : ∀ a ps' ex' h' tk gs, Fr h₀ L h' m → News h₀ L h' (((P, tabObj ps') :: ex') ++ rest) → Tab pos.line pos.col (name ++ ".<locals>." ++ "<genexpr>") ps' ex' → AllBare gs →
      GenK PRG w A h₀ L a its.size (fun j y => j < its.size ∧ Fp j y) (((P, tabObj ps') :: ex') ++ rest) { s with heap := h', toks := tk, gens := gs } → Q (.ref a) { s with heap := h', toks := tk, gens := gs }) :
    wpAny (model PRG w) A (eval (.GeneratorExp elt [⟨.Tuple [.Name xa pa, .Name xb pb] kt pt, .Name y py, [], 0⟩] scope pos) (envX name fsc L f (.ref c) cl)) Q E s := by
  have hm := N (P, tabObj ps) (.head _)
  have nx := N (x, accObj dx its n) (List.mem_append_right _ hx)
  have ndx := N (dx, o) (List.mem_append_right _ hdx)
  have nT : ∀ j, j < its.size → s.heap.IsTuple (Ts j) #[va j, vb j] := fun j hj => ⟨_, (N _ (List.mem_append_right _ (ht j hj).2)).1, rfl, _, rfl⟩
  have hlt : x < s.heap.objs.size := Heap.lt_size nx.1
  have hxP : x ≠ P := hr _ hx
  have hTP : ∀ j, j < its.size → Ts j ≠ P := fun j hj => hr _ (ht j hj).2
  have hTlt : ∀ j, j < its.size → Ts j < s.heap.objs.size := fun j hj => by obtain ⟨_, e, _⟩ := nT j hj; exact Heap.lt_size e
  have hPlt : P < s.heap.objs.size := Heap.lt_size hm.1
  have hlim : s.heap.NoLimit := T.nolimit.keeps F.keep
  have hLlt : L < s.heap.objs.size := F.ns.lt
  refine wpAny_GeneratorExp_walksQTD hh hco hclos hcell h0 hxa hxb hab hkind hroom (ldG F.ns hy ?_ hfk hyl hyd) (fun _ => rfl)
  refine acc_iter (X.keeps F.keep) nx.1 ndx.1 ⟨hlim.push _, ?_⟩
  generalize hs1 : s.heap.push { cls := .type "list_iterator", data := .fields #[.ref x, .int 0 0] } = h1
  have k1 : ∀ b o, s.heap.get? b = some o → h1.get? b = some o := fun b o e => hs1 ▸ Heap.get?_push_of_some _ e
  have z1 : h1.objs.size = s.heap.objs.size + 1 := by rw [← hs1, Heap.size_push]
  have F1 : Fr h₀ L h1 m := F.keeps k1
  have N1 : News h₀ L h1 (((P, tabObj ps) :: ex) ++ rest) := fun b hb => ⟨k1 _ _ (N b hb).1, (N b hb).2⟩
  have iter1 : h1.IsListIter s.heap.objs.size x 0 := hs1 ▸ ⟨_, Heap.get?_push_size _ rfl, rfl, rfl⟩
  refine gcode (s := { s with heap := h1 }) F1 N1 C rfl tab hr fun c' h3 tk3 ps' ex' hx3 F3 N3 tab' hz3 hex => ?_
  have hz3' : h1.objs.size ≤ h3.objs.size := hz3
  have hz4 : s.heap.objs.size ≤ h3.objs.size := Nat.le_trans (z1 ▸ Nat.le_succ _) hz3'
  have hex' : ∀ b ∈ ex', b ∈ ex ∨ h1.objs.size ≤ b.1 := hex
  have hx3' : Heap.ExtBut P h1 h3 := hx3
  obtain ⟨bm, ob, b1, b2, b3, b4, b5, b6⟩ := T.bmain
  refine wpAny_builtinsFor (globals := mainGlobals) (T.g.keeps F3.keep) b1 b2 (F3.keep _ _ b3) b4 b5 b6 ?_
  have hIP : s.heap.objs.size ≠ P := Nat.ne_of_gt hPlt
  have hl3 : h3.NoLimit := T.nolimit.keeps F3.keep
  have hclt : cStatics < h₀.objs.size := let ⟨_, hn, _⟩ := T.nolimit; hn.lt
  have W := fun (A' : Around) (hA : A'.handled = none) => (walksAcc (prog := PRG) (w := w) hA s.heap.objs.size x (Nat.ne_of_lt hlt) its Ts (fun j => #[va j, vb j]) (fun j hj => (ht j hj).1) fun j hj => Nat.ne_of_lt (hTlt j hj)).bound
  have keep3 : ∀ b o, b ≠ P → s.heap.get? b = some o → h3.get? b = some o := fun b o hb e => hx3' b o hb (k1 b o e)
  refine ⟨s.heap.objs.size, _, _, _, _, _, _, (fun _ => true), Fp, rfl, W, fun i vals hv => ⟨va i, vb i, hv.2⟩, ?_, ?_, hl3, ?_, ?_, ?_⟩
  · exact ⟨let ⟨o, e, r⟩ := iter1; ⟨o, hx3' _ _ hIP e, r⟩, ⟨_, keep3 _ _ hxP nx.1, _, rfl⟩, fun k hk => (nT k hk).at fun o e => keep3 _ o (hTP k hk) e⟩
  · intro b hb
    have hb' : b < s.heap.objs.size + 1 := by
      rcases List.mem_cons.mp hb with rfl | hb
      · exact Nat.lt_succ_self _
      · rcases List.mem_cons.mp hb with rfl | hb
        · exact Nat.lt_succ_of_lt hlt
        · obtain ⟨k, hk, rfl⟩ := List.mem_map.mp hb
          exact Nat.lt_succ_of_lt (hTlt k (List.mem_range.mp hk))
    exact Nat.lt_of_lt_of_le (z1 ▸ hb') hz3'
  · intro hb
    have e : cStatics = s.heap.objs.size := by simpa using hb
    exact absurd (e ▸ Nat.lt_of_lt_of_le hclt F.above) (Nat.lt_asymm hLlt)
  · intro href hhref
    refine ⟨fun A' E' i wa wb u m₂ hA _ _ hP hn hma hmb hk => ?_, fun A' E' i wa wb u m₂ hA _ _ hP _ hn hma hmb hk => ?_⟩
    · exact wpAny_pure ⟨rfl, _, _, rfl, fun _ _ e => e⟩
    · obtain ⟨hi, hv⟩ := hP
      obtain ⟨rfl, rfl⟩ : wa = va i ∧ wb = vb i := by simpa using congrArg Array.toList hv
      refine g2 _ _ A' E' i u m₂ hA hi ⟨hn, fun b o e => ?_, ?_⟩ hma hmb
      · have hb3 := F3.keep b o e
        have hb0 : b < h₀.objs.size := Heap.lt_size e
        refine hk b (List.mem_range.mpr (Heap.lt_size hb3)) ?_ o (hhref b o hb3)
        intro hm'
        have e' : b = s.heap.objs.size := by simpa using hm'
        exact absurd (e' ▸ Nat.lt_of_lt_of_le hb0 F.above) (Nat.lt_asymm hLlt)
      · exact Nat.le_trans F.above (Nat.le_trans (Nat.le_of_lt hLlt) hz4)
  · intro a h5 tk gs hgb hag hsz5 hk5 W5 hat
    have F5 : Fr h₀ L h5 m := F3.keeps hk5
    have N5 : News h₀ L h5 (((P, tabObj ps') :: ex') ++ rest) := fun b hb => ⟨hk5 _ _ (N3 b hb).1, (N3 b hb).2⟩
    have F' : (fun j y => ∃ i, (passing (fun _ => true) its.size 0)[j]? = some i ∧ Fp i y) = (fun j y => j < its.size ∧ Fp j y) := by
      funext j y
      rw [passing_all]
      refine propext ⟨?_, ?_⟩
      · rintro ⟨i, hi, hf⟩
        obtain ⟨h1, h2⟩ := List.getElem?_eq_some_iff.mp hi
        simp at h1 h2
        subst h2
        exact ⟨h1, hf⟩
      · rintro ⟨hj, hf⟩
        exact ⟨j, by simp [hj], hf⟩
    have W6 := W5
    rw [F'] at W6
    have e : (passing (fun _ => true) its.size 0).length = its.size := by rw [passing_all, List.length_range]
    rw [e] at W6
    refine h a ps' ex' h5 tk _ F5 N5 tab' (hG.push hgb) ⟨_, _, _, _, W6, hat, (fun i s' st => st.1.typeIs), List.mem_cons_self, ?_, ?_⟩
    · intro b hb
      show b < h5.objs.size
      rw [hsz5]
      rcases List.mem_cons.mp hb with rfl | hb
      · exact Nat.lt_succ_self _
      · rcases List.mem_cons.mp hb with rfl | hb
        · exact Nat.lt_succ_of_lt hag
        · exact Nat.lt_succ_of_lt (Nat.lt_trans (List.mem_range.mp hb) hag)
    · intro b hb
      rcases List.mem_cons.mp hb with rfl | hb
      · exact ⟨Nat.lt_of_lt_of_le hLlt hz4, fun p hp => Nat.ne_of_lt (Heap.lt_size (N3 p hp).1)⟩
      · have e : b = s.heap.objs.size := by simpa using hb
        subst e
        refine ⟨hLlt, fun p hp => ?_⟩
        have hp' : p.1 < s.heap.objs.size ∨ h1.objs.size ≤ p.1 := by
          simp only [List.cons_append] at hp
          rcases List.mem_cons.mp hp with rfl | hp
          · exact .inl hPlt
          · rcases List.mem_append.mp hp with hp | hp
            · rcases hex' p hp with hp | hp
              · exact .inl (Heap.lt_size (N p (by simp [hp])).1)
              · exact .inr hp
            · exact .inl (Heap.lt_size (N p (by simp [hp])).1)
        rcases hp' with hp' | hp'
        · exact Nat.ne_of_lt hp'
        · exact Nat.ne_of_gt (Nat.lt_of_lt_of_le (z1 ▸ Nat.lt_succ_self _) hp')
end
end Mine
end
-- BCPart
section
open PySem PySem.W PyProof.Rows PySem.Calls
set_option maxRecDepth 100000
set_option maxHeartbeats 4000000
namespace Mine
/-- a call that may make a generator -/
def CallOkG (w : World) (mean : ExcName → Option Value) (mg mb : Str → Option Value) (news : Ledg) (D : Nat) (f : Addr) (args : List Value) (Post : Value → Ledg → Prop) : Prop :=
  ∀ (dp un : Nat) (gd : Option (List Code)) (cn : Str) (cs : Scope) (a' : Addr) (ccd : Value) (cl : List (Str × Addr)) (outer : List Env) (A₀ : Around) (base h₀ : Heap) (L : Addr) (m : Str → Option Value) (s : Shared) (Q E : Value → Shared → Prop),
    Below A₀ base outer h₀ → Fr h₀ L s.heap m → (hd.heap_1 w.params).In h₀ → News h₀ L s.heap news → Top topProg LO mean mg mb h₀ → cs.kind = .function →
    dp + D < recursionLimit → un + 8 * D < cLine → AllBare s.gens →
    (∀ (r : Value) (news' : Ledg) (h' : Heap) (tk' : Nat) (gs' : Array GenState), Fr h₀ L h' m → News h₀ L h' news' → Back news s.heap h' news' → AllBare gs' → Post r news' → Q r { s with heap := h', toks := tk', gens := gs' }) →
      wpAny (model Challenge.rw_re0104_02.row.prog w) (ktrTop dp un gd cn cs L a' ccd cl outer) (call (.ref f) args) Q E s
theorem CallOkG.use {w : World} {mean : ExcName → Option Value} {mg mb : Str → Option Value} {news : Ledg} {D : Nat} {f : Addr} {args : List Value} {Post : Value → Ledg → Prop} (C : CallOkG w mean mg mb news D f args Post)
    {dp un : Nat} {gd : Option (List Code)} {cn : Str} {cs : Scope} {a' : Addr} {ccd : Value} {cl : List (Str × Addr)} {outer : List Env} {A₀ : Around} {base h₀ : Heap} {L : Addr} {m : Str → Option Value} {s : Shared} {Q E : Value → Shared → Prop}
    (B : Below A₀ base outer h₀) (F : Fr h₀ L s.heap m) (X : (hd.heap_1 w.params).In h₀) (N : News h₀ L s.heap news) (T : Top topProg LO mean mg mb h₀) (hk : cs.kind = .function)
    (hd : dp + D < recursionLimit) (hu : un + 8 * D < cLine) (hG : AllBare s.gens)
    (ret : ∀ (r : Value) (news' : Ledg) (h' : Heap) (tk' : Nat) (gs' : Array GenState), Fr h₀ L h' m → News h₀ L h' news' → Back news s.heap h' news' → AllBare gs' → Post r news' → Q r { s with heap := h', toks := tk', gens := gs' }) :
      wpAny (model Challenge.rw_re0104_02.row.prog w) (ktrTop dp un gd cn cs L a' ccd cl outer) (call (.ref f) args) Q E s :=
  C _ _ _ _ _ _ _ _ _ _ _ _ _ _ _ _ _ B F X N T hk hd hu hG ret
theorem tj (sep : Str) (l : List Str) : Txt.join sep l = Str.join sep l := StrLaws.glued_eq_join sep l
theorem join0_cps : ∀ l : List Str, (Txt.join Str.empty l).cps.toList = (l.map fun x => x.cps.toList).flatten
  | [] => by rw [tj]; rfl
  | [x] => by rw [tj]; show x.cps.toList = _; simp
  | x :: y :: r => by
    have ih := join0_cps (y :: r)
    rw [tj] at ih ⊢
    show (x ++ Str.empty ++ Str.join Str.empty (y :: r)).cps.toList = _
    rw [Str.cps_append, Str.cps_append, Array.toList_append, Array.toList_append, ih]
    show x.cps.toList ++ [] ++ _ = _
    rw [List.append_nil]
    rfl
theorem str_len' (x : Str) : x.length = x.cps.toList.length := by rw [Array.length_toList]; rfl
theorem join2_len (a b : Str) : (Txt.join Str.empty [a, b]).length = a.length + b.length := by
  rw [str_len', join0_cps, str_len' a, str_len' b]; simp
/-- what a row holds: each part's tuple, its two texts -/
structure Part where
  at_ : Addr
  a : Str
  ta : Tok
  b : Str
  tb : Tok
abbrev rIts (R : List Part) : List Value := R.map fun p => .ref p.at_
abbrev rLed (R : List Part) : Ledg := R.map fun p => (p.at_, tup2 (.str p.a p.ta) (.str p.b p.tb))
def part0 : Part := ⟨0, Str.empty, 0, Str.empty, 0⟩
theorem partAt (R : List Part) (j : Nat) (h : j < R.length) : R.getD j part0 = R[j] := by rw [List.getD_eq_getElem?_getD, List.getElem?_eq_getElem h]; rfl
def rTxt (R : List Part) : List Str := R.map fun p => Txt.join Str.empty [p.a, p.b]
theorem CallOkG.frame {w : World} {mean : ExcName → Option Value} {mg mb : Str → Option Value} {news : Ledg} {D : Nat} {f : Addr} {args : List Value} {Post : Value → Ledg → Prop} (C : CallOkG w mean mg mb news D f args Post) (rest : Ledg)
    (hdis : ∀ h₀ L h, News h₀ L h (news ++ rest) → ∀ p ∈ rest, p.1 ∉ news.map (·.1)) :
    CallOkG w mean mg mb (news ++ rest) D f args (fun r nw => ∃ news', nw = news' ++ rest ∧ (∀ p ∈ news', ∀ q ∈ rest, p.1 ≠ q.1) ∧ Post r news') := by
  intro dp un gd cn cs a' ccd cl outer A₀ base h₀ L m s Q E B F X N T hk hdp hun hG hret
  have hd := hdis _ _ _ N
  refine C.use B F X (fun p hp => N p (List.mem_append_left _ hp)) T hk hdp hun hG fun r news' h' tk' gs' F' N' K' G' hp => ?_
  exact hret r (news' ++ rest) h' tk' gs' F' (K'.news N N' hd) (K'.frame N) G' ⟨news', rfl, K'.apart N hd, hp⟩
def WhileStepG (h₀ : Heap) (L : Addr) (s : Shared) (J : Nat → (Str → Option Value) → Ledg → Prop) (n : Nat) (f : Flow) (s₃ : Shared) : Prop :=
  f = .next ∧ ∃ h' tk gs m₂ news₂ n', s₃ = { s with heap := h', toks := tk, gens := gs } ∧ Fr h₀ L h' m₂ ∧ News h₀ L h' news₂ ∧ AllBare gs ∧ n' < n ∧ J n' m₂ news₂
section
variable {prog : Program} {w : World} {A : Around} {E : Value → Shared → Prop} {Q : Flow → Shared → Prop} {s : Shared} {env : Env} {h₀ : Heap} {L : Addr}
theorem While_invG {test : Expr} {body : List Stmt} {pos : Pos} {m : Str → Option Value} {news : Ledg} (J : Nat → (Str → Option Value) → Ledg → Prop) {n₀ : Nat}
    (F : Fr h₀ L s.heap m) (N : News h₀ L s.heap news) (G : AllBare s.gens) (hJ : J n₀ m news)
    (turn : ∀ n m₁ news₁ h₁ tk₁ gs₁, Fr h₀ L h₁ m₁ → News h₀ L h₁ news₁ → AllBare gs₁ → J n m₁ news₁ →
      wpAny (model prog w) A (isTrue test env (eval test env)) (fun b s₂ =>
        if b = true then wpAny (model prog w) A (execs body env) (WhileStepG h₀ L s J n) E s₂ else Q .next s₂) E { s with heap := h₁, toks := tk₁, gens := gs₁ })
    (hE : PassesOwn (model prog w) A env E := by passes_own) :
    wpAny (model prog w) A (exec (.While test body [] pos) env) Q E s := by
  refine wpAny_While (codeAny_whileLoop (fun n s' => ∃ h₁ tk₁ gs₁ m₁ news₁, s' = { s with heap := h₁, toks := tk₁, gens := gs₁ } ∧ Fr h₀ L h₁ m₁ ∧ News h₀ L h₁ news₁ ∧ AllBare gs₁ ∧ J n m₁ news₁) ?_ n₀ ⟨s.heap, s.toks, s.gens, m, news, rfl, F, N, G, hJ⟩)
  rintro n s' ⟨h₁, tk₁, gs₁, m₁, news₁, rfl, F₁, N₁, G₁, J₁⟩
  refine wpAny_mono (turn n m₁ news₁ h₁ tk₁ gs₁ F₁ N₁ G₁ J₁) (fun b s₂ h₂ => ?_) hE
  cases b with
  | false =>
    simp only [Bool.false_eq_true, if_false] at h₂ ⊢
    exact wpAny_execs_nil h₂
  | true =>
    simp only [if_true] at h₂ ⊢
    refine wpAny_mono h₂ (fun f s₃ h₃ => ?_) hE
    obtain ⟨rfl, h', tk, gs, m₂, news₂, n', rfl, F₂, N₂, G₂, hn, J₂⟩ := h₃
    exact ⟨n', hn, h', tk, gs, m₂, news₂, rfl, F₂, N₂, G₂, J₂⟩
end
end Mine
end
-- BCMake
section
open PySem PySem.W PyProof.Rows PySem.Calls
set_option maxRecDepth 100000
set_option maxHeartbeats 4000000
namespace Mine
def makesLIn (K : Frag) (C : Addr) : Bool := match K.lookup C with
  | some ⟨_, _, .cls cd, sl⟩ => !cd.hasDel && (sl.toList[4]?).join == some (.builtin "list.__new__") && !cd.mro.isEmpty && cd.mro.contains (.ref C) && cd.mro.contains (.type "list") &&
      specialIn K (.ref C) "__call__" == some (some (.builtin "type.__call__")) && instIn K (.ref C) (.type "type") == some true
  | _ => false
structure MakesL (M : Model) (h : Heap) (C : Addr) : Prop where
  obj : ∃ oc od cd sl, h.get? C = some ⟨oc, od, .cls cd, sl⟩ ∧ cd.hasDel = false ∧ cd.mro.isEmpty = false
  made : Looks M h (Bind.madeBy (.ref C)) (some "list.__new__")
  base : Looks M h (Bind.staticBase (.ref C)) (.ref C)
  self : Looks M h (isSubtype (.ref C) (.ref C)) true
  top : Looks M h (isSubtype (.ref C) (.type "list")) true
  call : Looks M h (specialOf (.ref C) "__call__") (some (.builtin "type.__call__"))
  typ : Looks M h (isInstance (.ref C) (.type "type")) true
theorem makesL_of {K : Frag} {M : Model} {h : Heap} (X : K.In h) {C : Addr} (e : makesLIn K C = true) : MakesL M h C := by
  unfold makesLIn at e
  split at e
  · rename_i oc od cd sl ho
    simp only [Bool.and_eq_true, Bool.not_eq_true', beq_iff_eq] at e
    obtain ⟨⟨⟨⟨⟨⟨e2, e3⟩, e4⟩, e5⟩, e6⟩, e7⟩, e8⟩ := e
    have hc : clsIn K C = some cd := by unfold clsIn; rw [ho]
    have hm : Looks M h (mroOf (.ref C)) cd.mro := (looks_clsIn X hc).andThen .now
    obtain ⟨c, l, hl⟩ : ∃ c l, cd.mro = c :: l := by cases q : cd.mro with | nil => rw [q] at e4; cases e4 | cons c l => exact ⟨c, l, rfl⟩
    have made : Looks M h (Bind.madeBy (.ref C)) (some "list.__new__") := by
      intro A Q E s k q
      unfold Bind.madeBy
      refine wpAny_bind (hm A _ E s k ?_)
      rw [hl, List.forIn_cons]
      refine wpAny_bind (wpAny_bind (wpAny_bind (wpAny_bind (wpAny_loadPart (k _ _ (X _ _ ho)) (wpAny_pure ?_)))))
      dsimp only
      rw [← Array.getElem?_toList, e3]
      exact wpAny_pure (wpAny_pure (wpAny_pure q))
    refine ⟨⟨oc, od, cd, sl, X _ _ ho, e2, e4⟩, made, ?_, looks_mroIn X ?_, looks_mroIn X ?_, looks_specialIn X e7, looks_instIn X e8⟩
    · intro A Q E s k q
      unfold Bind.staticBase
      refine wpAny_bind (hm A _ E s k ?_)
      rw [hl, List.forIn_cons]
      exact wpAny_bind (wpAny_bind (wpAny_bind (made A _ E s k (wpAny_pure (wpAny_pure (wpAny_pure q))))))
    · unfold mroIn; rw [hc, Option.bind_some, if_neg (by rw [e4]; decide), e5]
    · unfold mroIn; rw [hc, Option.bind_some, if_neg (by rw [e4]; decide), e6]
  · cases e
abbrev listInst (C dx : Addr) : Obj := { cls := .ref C, dict := some dx, data := .seq #[] }
theorem split_lnew : splitId "list.__new__" = some ("list", "__new__") := by decide +kernel
theorem kind_lnew : builtinKind "list.__new__" = some .builtinFn := by decide +kernel
noncomputable def sigLnew : Manifest.Signature := (Manifest.signature? "list.__new__").get (by decide +kernel)
theorem sig_lnew : Manifest.signature? "list.__new__" = some sigLnew := by kernel_rfl
theorem args_lnew (x : Addr) : Bind.checkArgs "list.__new__" sigLnew ⟨[.ref x], []⟩ = pure () := by kernel_rfl
theorem quiet_lnew : "list.__new__".startsWith "lifetime." = false := by decide +kernel
section
variable {prog : Program} {w : World} {A : Around} {K : Frag} {C : Addr} {R : Result → Shared → Prop} {h : Heap} {g : Array GenState} {d : Drawn} {t : Nat} {os : OsState}
theorem new_L (Y : MakesL (model prog w) h C)
    (hq : R (.ok (.ret (.ref (h.objs.size + 1)))) ⟨(h.push emptyDict).push (listInst C h.objs.size), g, d, t, os⟩) :
    codeAny (model prog w) A (.call (.builtin "list.__new__") ⟨[.ref C], []⟩) R ⟨h, g, d, t, os⟩ := by
  obtain ⟨⟨oc, od, cd, sl, hC, e2, e4⟩, made, base, self, top, call, typ⟩ := Y
  refine codeAny_call_builtin_code (Code.quiet_builtin _ quiet_lnew) ?_
  simp only [checkBuiltinCall, kind_lnew, split_lnew, sig_lnew]
  have args := args_lnew C
  rw [args]
  repeat (first | simp only [bne_self_eq_false, Bool.false_eq_true, if_false] | lk)
  refine codeAny_builtin_stack PySem.F.entry_list_new rfl fun p st => ?_
  have hown := owner_list_new
  simp only [hown]
  have fin : ∀ A', wpAny (model prog w) A' (do
      let .ref d ← newDict | unsupported "internal:list.__new__"
      ret (← newObj (.ref C) (.seq #[]) (some d))) (fun fin s' => match fin with | .done f => R (.ok f) s' | .again c' => c'.quiet = true ∧ codeAny (model prog w) A c' R s') (fun e s' => R (.error e) s') ⟨h, g, d, t, os⟩ := by
    intro A'
    unfold newDict
    refine wpAny_bind (wpAny_newObj_type ?_ (by size_fits))
    dsimp only
    refine wpAny_bind ?_
    show wpAny _ _ (newObjAsIs _ _ _) _ _ _
    unfold newObjAsIs classHasDel
    refine wpAny_bind (wpAny_alloc (wpAny_bind (wpAny_bind (wpAny_load (Heap.get?_push_of_some _ (Heap.get?_push_of_some _ hC)) (wpAny_pure ?_)))))
    rw [e2]
    refine wpAny_pure (wpAny_pure ?_)
    show R _ _
    rw [Heap.size_push]
    exact hq
  repeat (first | simp only [bne_self_eq_false, Bool.false_eq_true, if_false, Bool.not_true] | exact fin _ | lk)
end
end Mine
end
-- BCSup
section
open PySem PySem.W PyProof.Rows PySem.Calls
set_option maxRecDepth 100000
set_option maxHeartbeats 4000000
namespace Mine
theorem slot_wd_get : Slot "wrapper_descriptor" "__get__" "wrapper_descriptor.__get__" :=
  .of (owner := "wrapper_descriptor") (n := "__get__") (by rw [typeLookup_type, builtinLookup_eq_fast]; kernel_rfl) (by decide +kernel) (by decide +kernel) (by decide +kernel)
    (by first | exact .inl (by decide +kernel) | exact .inr (by decide +kernel)) (by rw [isSubtype_type]; kernel_rfl)
theorem slot_md_get : Slot "method_descriptor" "__get__" "method_descriptor.__get__" :=
  .of (owner := "method_descriptor") (n := "__get__") (by rw [typeLookup_type, builtinLookup_eq_fast]; kernel_rfl) (by decide +kernel) (by decide +kernel) (by decide +kernel)
    (by first | exact .inl (by decide +kernel) | exact .inr (by decide +kernel)) (by rw [isSubtype_type]; kernel_rfl)
theorem entry_wd_get : entryFor table "wrapper_descriptor.__get__" = some Builtin.«wrapper_descriptor.__get__» := entryFor_of_tree (by kernel_rfl)
theorem entry_md_get : entryFor table "method_descriptor.__get__" = some Builtin.«method_descriptor.__get__» := entryFor_of_tree (by kernel_rfl)
theorem args_wd_get (a b c : Value) : argsOk "wrapper_descriptor.__get__" ⟨[a, b, c], []⟩ := by unfold argsOk; kernel_rfl
theorem args_md_get (a b c : Value) : argsOk "method_descriptor.__get__" ⟨[a, b, c], []⟩ := by unfold argsOk; kernel_rfl
theorem typ_len : typeOf (.builtin "list.__len__") = pure (.type "wrapper_descriptor") := by show builtinType _ = _; rw [builtinType_eq_fast]; kernel_rfl
theorem typ_init : typeOf (.builtin "list.__init__") = pure (.type "wrapper_descriptor") := by show builtinType _ = _; rw [builtinType_eq_fast]; kernel_rfl
theorem typ_pop : typeOf (.builtin "list.pop") = pure (.type "method_descriptor") := by show builtinType _ = _; rw [builtinType_eq_fast]; kernel_rfl
end Mine
end
-- BCSupB
section
open PySem PySem.W PyProof.Rows PySem.Calls
set_option maxRecDepth 100000
set_option maxHeartbeats 4000000
namespace Mine
abbrev bObj (T f : String) (x : Addr) : Obj := { cls := .type T, data := .fields #[.builtin f, .ref x] }
theorem wd_len (x C : Addr) : ∃ bad : Sem Unit, Builtin.«wrapper_descriptor.__get__» ⟨[.builtin "list.__len__", .ref x, .ref C], []⟩ = ((isInstance (.ref x) (.type "list") >>= fun b => if !b then bad else pure ()) >>= fun _ => newFields "method-wrapper" [.builtin "list.__len__", .ref x] >>= fun r => ret r) := ⟨(do rule "descr.get.wrong-instance"; raiseError "TypeError" s!"descriptor '{("__len__" : Str).toString}' for '{← typeName (.type "list")}' objects doesn't apply to a '{← typeNameOf (.ref x)}' object"), by kernel_rfl⟩
theorem wd_init (x C : Addr) : ∃ bad : Sem Unit, Builtin.«wrapper_descriptor.__get__» ⟨[.builtin "list.__init__", .ref x, .ref C], []⟩ = ((isInstance (.ref x) (.type "list") >>= fun b => if !b then bad else pure ()) >>= fun _ => newFields "method-wrapper" [.builtin "list.__init__", .ref x] >>= fun r => ret r) := ⟨(do rule "descr.get.wrong-instance"; raiseError "TypeError" s!"descriptor '{("__init__" : Str).toString}' for '{← typeName (.type "list")}' objects doesn't apply to a '{← typeNameOf (.ref x)}' object"), by kernel_rfl⟩
theorem md_pop (x C : Addr) : ∃ bad : Sem Unit, Builtin.«method_descriptor.__get__» ⟨[.builtin "list.pop", .ref x, .ref C], []⟩ = ((isInstance (.ref x) (.type "list") >>= fun b => if !b then bad else pure ()) >>= fun _ => newFields "builtin_function_or_method" [.builtin "list.pop", .ref x] >>= fun r => ret r) := ⟨(do rule "descr.get.wrong-instance"; raiseError "TypeError" s!"descriptor '{("pop" : Str).toString}' for '{← typeName (.type "list")}' objects doesn't apply to a '{← typeNameOf (.ref x)}' object"), by kernel_rfl⟩
section
variable {prog : Program} {w : World} {M : Model} {A : Around} {E : Value → Shared → Prop} {h : Heap} {g : Array GenState} {d : Drawn} {t : Nat} {os : OsState}
theorem get_bound {x : Addr} {T f : String} {bad : Sem Unit} {Q : Fin → Shared → Prop} (hi : Looks M h (isInstance (.ref x) (.type "list")) true)
    (hq : Q (.done (.ret (.ref h.objs.size))) ⟨h.push (bObj T f x), g, d, t, os⟩) :
    wpAny M A ((isInstance (.ref x) (.type "list") >>= fun b => if !b then bad else pure ()) >>= fun _ => newFields T [.builtin f, .ref x] >>= fun r => ret r) Q E ⟨h, g, d, t, os⟩ := by
  refine wpAny_bind (wpAny_bind (Looks.at hi (wpAny_pure ?_)))
  unfold newFields
  refine wpAny_bind (wpAny_newObj_type ?_ (by size_fits))
  exact wpAny_pure hq
theorem sup_ga {so D x C : Addr} {f gid T BT : String} {G : Builtin} {l₀ l : List Value} {K : Frag} {name : Str} {tk : Tok} {Q : Fin → Shared → Prop}
    (hso : h.get? so = some { cls := .type "super", dict := none, data := .fields #[.ref D, .ref x, .ref C], slots := #[] }) (hno : Looks (model prog w) h (opaqueClassAbove (.ref C)) none)
    (hC : Looks (model prog w) h (mroOf (.ref C)) l₀) (hl : (l₀.dropWhile (· != .ref D)).drop 1 = l) (X : K.In h)
    (hf : alongIn K name l = some (some (.builtin f))) (ht : typeOf (.builtin f) = pure (.type T)) (hS : Slot T "__get__" gid) (hE : entryFor table gid = some G) (hA : argsOk gid ⟨[.builtin f, .ref x, .ref C], []⟩)
    (hG : ∃ bad : Sem Unit, G ⟨[.builtin f, .ref x, .ref C], []⟩ = ((isInstance (.ref x) (.type "list") >>= fun b => if !b then bad else pure ()) >>= fun _ => newFields BT [.builtin f, .ref x] >>= fun r => ret r))
    (hi : Looks (model prog w) h (isInstance (.ref x) (.type "list")) true) (hxC : x ≠ C) (hn : (name == ("__class__" : Str)) = false)
    (hq : Q (.done (.ret (.ref h.objs.size))) ⟨h.push (bObj BT f x), g, d, t, os⟩) :
    wpAny (model prog w) A (Builtin.«super.__getattribute__» ⟨[.ref so, .str name tk], []⟩) Q E ⟨h, g, d, t, os⟩ := by
  have hlk := hS.lookup
  obtain ⟨bad, hG⟩ := hG
  have hne : (Value.ref x == Value.ref C) = false := by simp [hxC]
  have hTf : (⟨h, g, d, t, os⟩ : Shared).TypeIs (.builtin f) T := ht
  have hdt : ({ cls := .type "super", dict := none, data := .fields #[.ref D, .ref x, .ref C], slots := #[] } : Obj).data = .fields #[.ref D, .ref x, .ref C] := rfl
  have f0 : (#[.ref D, .ref x, .ref C] : Array Value)[0]? = some (.ref D) := rfl
  have f1 : (#[.ref D, .ref x, .ref C] : Array Value)[1]? = some (.ref x) := rfl
  have f2 : (#[.ref D, .ref x, .ref C] : Array Value)[2]? = some (.ref C) := rfl
  unfold Builtin.«super.__getattribute__»
  repeat (first
    | (with_reducible refine wpAny_field hso hdt f0 ?_) | (with_reducible refine wpAny_field hso hdt f1 ?_) | (with_reducible refine wpAny_field hso hdt f2 ?_)
    | (with_reducible refine ks_wpAny_notOpaque hno ?_)
    | (with_reducible refine Looks.at hC ?_; rw [hl])
    | (refine ks_forIn_along X (fun _ _ => rfl) rfl ?_ hf)
    | (with_reducible refine wpAny_typeOf hTf ?_)
    | (with_reducible refine wpAny_call_entry hS hTf hE ?_ hA; rw [hG]; refine get_bound hi ?_)
    | (with_reducible refine ⟨_, rfl, ?_⟩)
    | (simp only [hn, hne, Bool.or_false, Bool.false_eq_true, if_false])
    | wp_step
    | dsimp only)
  all_goals exact hq
theorem sup_getMethod {so D x C : Addr} {f gid T BT : String} {G : Builtin} {l₀ l : List Value} {K : Frag} {name : Str} {pl : Sem Bool} {Q : Value × List Value → Shared → Prop}
    (hso : h.get? so = some { cls := .type "super", dict := none, data := .fields #[.ref D, .ref x, .ref C], slots := #[] }) (hno : Looks (model prog w) h (opaqueClassAbove (.ref C)) none)
    (hC : Looks (model prog w) h (mroOf (.ref C)) l₀) (hl : (l₀.dropWhile (· != .ref D)).drop 1 = l) (X : K.In h)
    (hf : alongIn K name l = some (some (.builtin f))) (ht : typeOf (.builtin f) = pure (.type T)) (hS : Slot T "__get__" gid) (hE : entryFor table gid = some G) (hA : argsOk gid ⟨[.builtin f, .ref x, .ref C], []⟩)
    (hG : ∃ bad : Sem Unit, G ⟨[.builtin f, .ref x, .ref C], []⟩ = ((isInstance (.ref x) (.type "list") >>= fun b => if !b then bad else pure ()) >>= fun _ => newFields BT [.builtin f, .ref x] >>= fun r => ret r))
    (hi : Looks (model prog w) h (isInstance (.ref x) (.type "list")) true) (hxC : x ≠ C) (hn : (name == ("__class__" : Str)) = false)
    (hq : Q (.ref h.objs.size, []) ⟨h.push (bObj BT f x), g, d, t + 1, os⟩) :
    wpAny (model prog w) A (getMethod (.ref so) name pl) Q E ⟨h, g, d, t, os⟩ := by
  have hlk := F.ks_slot_super_ga.lookup
  have hcan := F.ks_canon_super_ga
  have hT : ∀ t', (⟨h, g, d, t', os⟩ : Shared).TypeIs (.ref so) "super" := fun _ => ⟨_, hso, rfl⟩
  unfold getMethod
  refine wpAny_bind (wpAny_specialOf (hT _) hlk ?_)
  show wpAny _ _ (if (Manifest.canonical "super.__getattribute__" != "object.__getattribute__") = true then _ else _) _ _ _
  rw [if_pos hcan]
  unfold getAttr getAttrBy
  refine wpAny_bind (wpAny_bind (wpAny_mkText (wpAny_holding (wpAny_bind (wpAny_typeOf (hT _) (wpAny_bind (wpAny_of_eq hlk ?_)))))))
  show wpAny _ _ (getAttrByItsOwn (.ref so) (.str name t) (.type "super") (.builtin "super.__getattribute__") true false) _ _ _
  unfold getAttrByItsOwn hookBefore callGetattribute boundAndCalled
  refine wpAny_bind (wpAny_of_eq (show (if onTheHeap (.type "super") then typeLookup (.type "super") "__getattr__" else pure none) = pure none from rfl) ?_)
  refine wpAny_bind (wpAny_attempt (wpAny_holding ?_))
  show wpAny _ _ (bindSpecial (.builtin "super.__getattribute__") (.ref so) >>= _) _ _ _
  refine wpAny_bind (wpAny_of_eq (F.ks_slot_super_ga.bind _) ?_)
  refine wpAny_mono (Q := fun v s' => v = .ref h.objs.size ∧ s' = ⟨h.push (bObj BT f x), g, d, t + 1, os⟩) (E := fun _ _ => False)
    (wpAny_call_entry F.ks_slot_super_ga (hT _) F.ks_entry_super_ga (sup_ga hso hno hC hl X hf ht hS hE hA hG hi hxC hn ⟨_, rfl, rfl, rfl⟩) (F.ks_gaArgs_super _ _)) (fun v s' hv => ?_) fun _ _ z => z.elim
  obtain ⟨rfl, rfl⟩ := hv
  exact wpAny_pure (wpAny_pure hq)
/-- a call of a bound built-in of list -/
theorem call_bound {b x : Addr} {BT f : String} {Bi : Builtin} {rest : List Value} {Q : Value → Shared → Prop} (hb : h.get? b = some (bObj BT f x)) (hBT : (Value.type BT == .type "builtin_function_or_method" || Value.type BT == .type "method-wrapper") = true) (hBm : (Value.type BT != .type "method") = true)
    (hck : ∀ {Q' : Unit → Shared → Prop} {A' : Around} {E' : Value → Shared → Prop}, Q' () ⟨h, g, d, t, os⟩ → wpAny (model prog w) A' (checkBoundCall f ⟨.ref x :: rest, []⟩) Q' E' ⟨h, g, d, t, os⟩) (hp : plainId f = true) (hE : entryFor table f = some Bi)
    (hc : wpAny (model prog w) A.in1 (Bi ⟨.ref x :: rest, []⟩) (fun fin s' => ∃ v, fin = .done (.ret v) ∧ Q v s') E ⟨h, g, d, t, os⟩) :
    wpAny (model prog w) A (call (.ref b) rest) Q E ⟨h, g, d, t, os⟩ := by
  refine wpAny_call (codeAny_of_tree ?_)
  show wpAny _ A.in1 (callAny (.ref b) _) _ _ _
  unfold callAny
  refine wpAny_bind (wpAny_load hb ?_)
  have e : (({ cls := Value.type BT, data := .fields #[.builtin f, .ref x] } : Obj).cls == Value.type "method" || ({ cls := Value.type BT, data := .fields #[.builtin f, .ref x] } : Obj).cls == Value.type "builtin_function_or_method" || ({ cls := Value.type BT, data := .fields #[.builtin f, .ref x] } : Obj).cls == Value.type "method-wrapper") = true := by
    rw [Bool.or_assoc]; rw [show (_ || _) = true from hBT, Bool.or_true]
  show wpAny _ _ (if _ then _ else _) _ _ _
  rw [if_pos e]
  show wpAny _ _ (if (Value.type BT != .type "method") = true then _ else _) _ _ _
  rw [if_pos hBm]
  refine wpAny_bind (hck ?_)
  refine wpAny_pure ⟨plainId_quiet hp _, codeAny_builtin hE ?_⟩
  rw [Around.under_plainId hp _]
  exact wpAny_mono hc (fun fin s' ⟨v, e, q⟩ => by subst e; exact q) fun _ _ y => y
end
end Mine
end
-- BCSupC
section
open PySem PySem.W PyProof.Rows PySem.Calls
set_option maxRecDepth 100000
set_option maxHeartbeats 4000000
namespace Mine
theorem fill11 : (Challenge.rw_re0104_02, hd.heap_1) = (Challenge.rw_re0104_02, hd.heap_1) := by
  k_fill
  rfl
theorem bound_len (x : Addr) : checkBoundCall "list.__len__" ⟨[.ref x], []⟩ = pure () := by kernel_rfl
theorem bound_init (x : Addr) : checkBoundCall "list.__init__" ⟨[.ref x], []⟩ = pure () := by kernel_rfl
theorem plain_len' : plainId "list.__len__" = true := by decide +kernel
theorem plain_init' : plainId "list.__init__" = true := by decide +kernel
theorem plain_pop' : plainId "list.pop" = true := by decide +kernel
theorem entry_linit : entryFor table "list.__init__" = some Builtin.«list.__init__» := entryFor_of_tree (by kernel_rfl)
section
variable {prog : Program} {w : World} {M : Model} {A : Around} {E : Value → Shared → Prop} {s : Shared} {env : Env} {pos : Pos} {q x : Addr} {T f : String} {first : List Value}
def BndAt (q : Addr) (T f : String) (x : Addr) (h : Heap) : Prop := h.get? q = some (bObj T f x)
theorem keeps_B (hT : (T = "method-wrapper" ∨ T = "builtin_function_or_method")) (h : Heap) (X : BndAt q T f x h) : ∃ k, (k = Keeper.frame ∨ k = Keeper.machine ∨ k = Keeper.boundFrame) ∧ Looks M h (keeperOf (.ref q)) k := by
  refine ⟨.machine, .inr (.inl rfl), (Looks.ld (part := none) X).andThen ?_⟩
  rcases hT with rfl | rfl <;> exact .now
theorem callWith_B0 {Q : Value → Shared → Prop} (hT : (T = "method-wrapper" ∨ T = "builtin_function_or_method")) (X : BndAt q T f x s.heap) (h : wpAny M A (call (.ref q) (first ++ [])) Q E s) : wpAny M A (callWith pos (.ref q) first (backTo pos (starEach [] env)) []) Q E s :=
  callWith_of rfl (keeps_B hT) (evalArgs_nil3 ⟨X, h⟩)
end
section
variable {w : World} {A : Around} {E : Value → Shared → Prop} {s : Shared} {h₀ : Heap} {L x dx so q : Addr} {m : Str → Option Value} {news news' : Ledg} {its : Array Value} {n : Nat}
theorem k_slen (P : Params) : ks_superIn (hd.heap_1 P) 150 150 "__len__" = some (some (.builtin "list.__len__")) := by kernel_rfl
theorem k_sinit (P : Params) : ks_superIn (hd.heap_1 P) 150 150 "__init__" = some (some (.builtin "list.__init__")) := by kernel_rfl
theorem k_spop (P : Params) : ks_superIn (hd.heap_1 P) 150 150 "pop" = some (some (.builtin "list.pop")) := by kernel_rfl
theorem k_third (P : Params) : nsIn (hd.heap_1 P) cStatics "thirdparty.any" = some none := by kernel_rfl
theorem k_noMod (P : Params) : mroIn (hd.heap_1 P) 150 (.type "module") = some false := by kernel_rfl
theorem sup_method {f gid T BT : String} {G : Builtin} {name : Str} {pl : Sem Bool} {o : Obj} {Q : Value × List Value → Shared → Prop} (F : Fr h₀ L s.heap m) (X₀ : (hd.heap_1 w.params).In h₀) (N : News h₀ L s.heap news) (hso : (so, ks_superObj 150 x 150) ∈ news) (hx : (x, accObj dx its n) ∈ news) (hdx : (dx, o) ∈ news)
    (hm : ks_superIn (hd.heap_1 w.params) 150 150 name = some (some (.builtin f))) (ht : typeOf (.builtin f) = pure (.type T)) (hS : Slot T "__get__" gid) (hE : entryFor table gid = some G) (hA : argsOk gid ⟨[.builtin f, .ref x, .ref 150], []⟩)
    (hG : ∃ bad : Sem Unit, G ⟨[.builtin f, .ref x, .ref 150], []⟩ = ((isInstance (.ref x) (.type "list") >>= fun b => if !b then bad else pure ()) >>= fun _ => newFields BT [.builtin f, .ref x] >>= fun r => ret r)) (hn : (name == ("__class__" : Str)) = false)
    (h : ∀ q h', Fr h₀ L h' m → News h₀ L h' ((q, bObj BT f x) :: news) → (∀ p ∈ news, p.1 < q) → Q (.ref q, []) { s with heap := h', toks := s.toks + 1 }) : wpAny (model Challenge.rw_re0104_02.row.prog w) A (getMethod (.ref so) name pl) Q E s := by
  have X : (hd.heap_1 w.params).In s.heap := X₀.keeps F.keep
  have I := accInst (N _ hx).1 (N _ hdx).1
  have hi := acc_isList (w := w) X (N _ hx).1 (N _ hdx).1
  obtain ⟨hh, g, d, t, os⟩ := s
  cases hc : clsIn (hd.heap_1 w.params) 150 with
  | none => unfold ks_superIn at hm; rw [hc] at hm; cases hm
  | some cd =>
    unfold ks_superIn at hm
    rw [hc] at hm
    refine sup_getMethod (N _ hso).1 (looks_opaque X (k_third _)) (l₀ := cd.mro) ?_ rfl X hm ht hS hE hA hG hi (ks_ne X I hc) hn ?_
    · exact fun A Q E s k q => wpAny_bind ((looks_clsIn X hc) A _ E s k (wpAny_pure q))
    · obtain ⟨F', N', l'⟩ := ks_newsPush (s := ⟨hh, g, d, t, os⟩) (o := bObj BT f x) F N rfl (Heap.get?_push_at rfl rfl) (fun b o e => Heap.get?_push_of_some _ e)
      exact h _ _ F' N' l'
theorem bcall_len {Q : Value → Shared → Prop} (N : News h₀ L s.heap news) (hq : (q, bObj "method-wrapper" "list.__len__" x) ∈ news) (hx : (x, accObj dx its n) ∈ news)
    (h : Q (.int its.size s.toks) { s with toks := s.toks + 1 }) : wpAny (model Challenge.rw_re0104_02.row.prog w) A (call (.ref q) []) Q E s := by
  obtain ⟨hh, g, d, t, os⟩ := s
  refine call_bound (N _ hq).1 (by decide +kernel) (by decide +kernel) (fun h' => wpAny_of_eq (bound_len x) h') plain_len' entry_list_len ?_
  show wpAny _ _ (do retInt (← seqSize x)) _ _ _
  unfold seqSize
  refine wpAny_bind (wpAny_bind (wpAny_load (N _ hx).1 ?_))
  exact wpAny_pure (wpAny_bind (wpAny_mkInt (wpAny_pure ⟨_, rfl, h⟩)))
theorem bcall_init {Q : Value → Shared → Prop} (F : Fr h₀ L s.heap m) (N : News h₀ L s.heap news) (hq : (q, bObj "method-wrapper" "list.__init__" x) ∈ news) (U : Upd x (accObj dx #[] 0) (accObj dx #[] 0) news news')
    (h : ∀ h', Fr h₀ L h' m → News h₀ L h' news' → Q .none { s with heap := h' }) : wpAny (model Challenge.rw_re0104_02.row.prog w) A (call (.ref q) []) Q E s := by
  obtain ⟨pre, post, rfl, rfl, a, b⟩ := U.split
  have z := N (x, accObj dx #[] 0) (List.mem_append.mpr (.inr (.head _)))
  obtain ⟨hh, g, d, t, os⟩ := s
  refine call_bound (N _ hq).1 (by decide +kernel) (by decide +kernel) (fun h' => wpAny_of_eq (bound_init x) h') plain_init' entry_linit ?_
  show wpAny _ _ (Builtin.List.listItems (.ref x) >>= fun old => updateSeq x (fun _ => #[]) >>= fun _ => letGo old.toList.reverse >>= fun _ => ret .none) _ _ _
  refine wpAny_bind (wpAny_listItems z.1 rfl (wpAny_bind (wpAny_updateSeq z.1 rfl (wpAny_bind (wpAny_letGo (wpAny_pure ⟨.none, rfl, h _ (F.change (Heap.SameBut.update ..) z.2.1 z.2.2) ?_⟩))))))
  refine news_set N a b (Heap.SameBut.update ..) ?_
  have e : Obj.mapSeq (fun _ => #[]) (accObj dx #[] 0) = accObj dx #[] 0 := by simp [Obj.mapSeq]
  rw [Heap.get?_update_self _ z.1 (by rw [e]; rfl), e]
noncomputable def sigPop : Manifest.Signature := (Manifest.signature? "list.pop").get (by decide +kernel)
theorem sig_pop : Manifest.signature? "list.pop" = some sigPop := by kernel_rfl
theorem args_pop (x : Addr) : Bind.checkArgs "list.pop" { sigPop with full := s!"{"_Accumulator"}.{Bind.lastOf "list.pop"}" } ⟨[.ref x], []⟩ = pure () := by kernel_rfl
theorem kind_pop : builtinKind "list.pop" = some .method := by decide +kernel
theorem vara_pop : Manifest.varargsMethods.contains "list.pop" = false := by decide +kernel
theorem k_ty (P : Params) : typeIn (hd.heap_1 P) (.ref 150) = some (.type "type") := by kernel_rfl
theorem k_cl (P : Params) : (clsIn (hd.heap_1 P) 150).map (·.qualname.toString) = some "_Accumulator" := by kernel_rfl
theorem checkPop {h : Heap} (X : (hd.heap_1 w.params).In h) (h1 : h.get? x = some (accObj dx its n)) {Q : Unit → Shared → Prop} {g d t os} (hq : Q () ⟨h, g, d, t, os⟩) : wpAny (model Challenge.rw_re0104_02.row.prog w) A (checkBoundCall "list.pop" ⟨[.ref x], []⟩) Q E ⟨h, g, d, t, os⟩ := by
  have ty : Looks (model Challenge.rw_re0104_02.row.prog w) h (typeOf (.ref x)) (.ref 150) := (Looks.ld h1).andThen .now
  have im : Looks (model Challenge.rw_re0104_02.row.prog w) h (isInstance (.ref x) (.type "module")) false := ty.andThen (looks_mroIn X (k_noMod _))
  have tt : Looks (model Challenge.rw_re0104_02.row.prog w) h (typeOf (.ref 150)) (.type "type") := looks_typeIn X (k_ty _)
  cases hc : clsIn (hd.heap_1 w.params) 150 with
  | none => have z := k_cl w.params; rw [hc] at z; cases z
  | some cd =>
    have hcd : Looks (model Challenge.rw_re0104_02.row.prog w) h (classData 150) cd := looks_clsIn X hc
    unfold checkBoundCall
    simp only [sig_pop, kind_pop]
    show wpAny _ _ (isInstance (.ref x) (.type "module") >>= _) _ _ _
    refine wpAny_bind (Looks.at im ?_)
    simp only [vara_pop, Bool.or_self, Bool.false_eq_true, if_false]
    refine wpAny_bind (ks_wpAny_isType_inst h1 (fun _ e => by cases e) ?_)
    simp only [Bool.false_eq_true, if_false]
    refine wpAny_bind (Looks.at ty ?_)
    dsimp only
    refine wpAny_bind (Looks.at hcd ?_)
    refine wpAny_bind (Looks.at tt ?_)
    have z := k_cl w.params
    rw [hc] at z
    rw [if_pos (by decide +kernel), show cd.qualname.toString = "_Accumulator" from Option.some.inj z, args_pop]
    exact wpAny_pure hq
theorem bcall_pop {p : List Value} {y : Value} {Q : Value → Shared → Prop} (F : Fr h₀ L s.heap m) (X : (hd.heap_1 w.params).In h₀) (N : News h₀ L s.heap news) (hq : (q, bObj "builtin_function_or_method" "list.pop" x) ∈ news) (U : Upd x (accObj dx (p ++ [y]).toArray n) (accObj dx p.toArray (n + 1)) news news') (hz : p.length < sizeLine)
    (h : ∀ h', Fr h₀ L h' m → News h₀ L h' news' → Q y { s with heap := h' }) : wpAny (model Challenge.rw_re0104_02.row.prog w) A (call (.ref q) []) Q E s := by
  obtain ⟨pre, post, rfl, rfl, a, b⟩ := U.split
  have z := N (x, accObj dx (p ++ [y]).toArray n) (List.mem_append.mpr (.inr (.head _)))
  obtain ⟨hh, g, d, t, os⟩ := s
  refine call_bound (N _ hq).1 (by decide +kernel) (by decide +kernel) (fun h' => checkPop (X.keeps F.keep) z.1 h') plain_pop' PySem.F.entry_list_pop ?_
  have hz' : (p ++ [y]).toArray.size ≤ sizeLine := by rw [List.size_toArray, List.length_append]; simp; omega
  have hk : (p ++ [y]).toArray.size - 1 = p.length := by rw [List.size_toArray, List.length_append]; rfl
  have hy : (p ++ [y]).toArray[(p ++ [y]).toArray.size - 1]? = some y := by rw [hk]; simp
  have hne : ¬ (p ++ [y]).toArray.isEmpty = true := by simp
  have hk2 : seqIndex? (-1) (p ++ [y]).toArray.size = some p.length := by
    rw [seqIndex_neg (by omega) (by rw [List.size_toArray, List.length_append]; simp; omega)]; congr 1; rw [List.size_toArray, List.length_append]; simp; omega
  have hy2 : (p ++ [y]).toArray[p.length]? = some y := by simp
  have hz2 : ((p ++ [y]).toArray.eraseIdxIfInBounds p.length).size ≤ sizeLine + 1 := by rw [kl_erase, List.append_nil, List.size_toArray]; omega
  unfold Builtin.«list.pop»
  show wpAny _ _ (Builtin.List.listItems (.ref x) >>= fun xs => _) _ _ _
  refine wpAny_bind (wpAny_listItems z.1 rfl ?_)
  dsimp only
  rw [if_neg hne]
  simp only [hk2, hy2, Option.bind_some, Option.map_some]
  refine wpAny_bind (m := Builtin.List.listUpdate _ _) (wpAny_updateSeq z.1 rfl (wpAny_pure ⟨y, rfl, h _ (F.change (Heap.SameBut.update ..) z.2.1 z.2.2) ?_⟩) hz' hz2)
  refine news_set N a b (Heap.SameBut.update ..) ?_
  have e : Obj.mapSeq (fun xs => xs.eraseIdxIfInBounds p.length) (accObj dx (p ++ [y]).toArray n) = accObj dx p.toArray (n + 1) := by
    simp only [Obj.mapSeq, kl_erase, List.append_nil]
    simp
  rw [Heap.get?_update_self _ z.1 (by rw [e]; rfl), e]
end
end Mine
end
-- BCMake2
section
open PySem PySem.W PyProof.Rows PySem.Calls
open Builtin Builtin.ObjectAttr
set_option maxRecDepth 100000
set_option maxHeartbeats 4000000
namespace Mine
theorem fill20 : (Challenge.rw_re0104_02, hd.heap_1) = (Challenge.rw_re0104_02, hd.heap_1) := by
  k_fill
  rfl
section
variable {prog : Program} {w : World} {A : Around} {K : Frag} {C : Addr} {R : Result → Shared → Prop} {h : Heap} {g : Array GenState} {d : Drawn} {t : Nat} {os : OsState}
theorem make_coreL {init : Value} (Y : MakesL (model prog w) h C) (hi : Looks (model prog w) h (typeLookup (.ref C) "__init__") (some init))
    (hb : ∀ self, Looks (model prog w) h (bindSpecial init self) (init, [self]))
    (hq : codeAny (model prog w) (A.under (.builtin "type.__call__" ⟨[.ref C], []⟩)) (.call init ⟨[.ref (h.objs.size + 1)], []⟩) (InitBack (h.objs.size + 1) R) ⟨(h.push emptyDict).push (listInst C h.objs.size), g, d, t, os⟩) :
    codeAny (model prog w) A (.call (.ref C) ⟨[], []⟩) R ⟨h, g, d, t, os⟩ := by
  have Y' := Y
  obtain ⟨⟨oc, od, cd, sl, hC, e2, e4⟩, made, base, self, top, call, typ⟩ := Y
  refine codeAny_of_tree ?_
  show wpAny _ _ (callAny (.ref C) _) _ _ _
  refine nd_load hC ?_
  show wpAny _ _ (callAny.viaDunder (.ref C) _) _ _ _
  unfold callAny.viaDunder
  refine wpAny_bind (call.at ?_)
  dsimp only
  rw [tc_bind]
  refine wpAny_bind (wpAny_pure (wpAny_bind (wpAny_pure ?_)))
  refine wpAny_pure (a := Fin.again (.call (.builtin "type.__call__") ⟨[.ref C], []⟩)) (And.intro rfl ?_)
  refine codeAny_call_builtin_at (Code.quiet_builtin _ (by decide +kernel)) entry_typeCall (check_slot tc_kind tc_split typ (tc_args _ _ _) ?_)
  unfold Builtin.«type.__call__»
  have hm : Looks (model prog w) h (mroOf (.ref C)) cd.mro := ((Looks.ld (part := none) hC).andThen .now).andThen .now
  repeat (first | simp only [e4, Bool.false_eq_true, if_false] | with_reducible refine wpAny_call ?_ | lk)
  refine new_L Y' ?_
  have k : ∀ b o, h.get? b = some o → ((h.push emptyDict).push (listInst C h.objs.size)).get? b = some o := fun b o e => Heap.get?_push_of_some _ (Heap.get?_push_of_some _ e)
  have hx : ((h.push emptyDict).push (listInst C h.objs.size)).get? (h.objs.size + 1) = some (listInst C h.objs.size) := by heap_get
  have t1 : Looks (model prog w) ((h.push emptyDict).push (listInst C h.objs.size)) (typeOf (.ref (h.objs.size + 1))) (.ref C) := (Looks.ld hx).andThen .now
  have s1 := self.keeps k
  have i1 := hi.keeps k
  have b1 := (hb (.ref (h.objs.size + 1))).keeps k
  unfold isInstance callSpecial? specialOf
  repeat (first | with_reducible refine wpAny_call ?_ | lk)
  refine codeAny_mono hq fun r s' z => ?_
  rcases r with e | (v | _ | _ | _) <;> first | exact z | exact z.elim | skip
  obtain ⟨rfl, z⟩ := z
  exact wpAny_pure (wpAny_pure z)
end
theorem refuse_list (self : Value) : refuseLoop self "__setattr__" [.type "list", .type "object"] = pure () := by kernel_rfl
section
variable {prog : Program} {w : World} {A : Around} {K : Frag} {C x : Addr} {s : Shared} {h₀ : Heap} {L : Addr} {m : Str → Option Value} {news : List (Addr × Obj)} {R : Result → Shared → Prop}
theorem make_KL {fI : Addr} (F : Fr h₀ L s.heap m) (N : News h₀ L s.heap news) (X : K.In s.heap) (hm : makesLIn K C = true)
    (hi : findIn K (.ref C) "__init__" = some (some (.ref fI))) (hf : typeIn K (.ref fI) = some (.type "function"))
    (h : ∀ x dx h', Fr h₀ L h' m → News h₀ L h' ((x, listInst C dx) :: (dx, emptyDict) :: news) → (∀ p ∈ news, p.1 < dx) → dx < x → (∀ b o, s.heap.get? b = some o → h'.get? b = some o) → s.heap.get? x = none → s.heap.get? dx = none →
      codeAny (model prog w) (A.under (.builtin "type.__call__" ⟨[.ref C], []⟩)) (.call (.ref fI) ⟨[.ref x], []⟩) (InitBack x R) { s with heap := h' }) :
    codeAny (model prog w) A (.call (.ref C) ⟨[], []⟩) R s := by
  obtain ⟨hh, g, d, t, os⟩ := s
  refine make_coreL (makesL_of X hm) (looks_findIn X hi) (fun self => bind_fn X self hf) (h _ hh.objs.size _ ((F.push _).push _) ?_ (fun p hp => Heap.lt_size (N p hp).1) (Nat.lt_succ_self _) (fun b o e => Heap.get?_push_of_some _ (Heap.get?_push_of_some _ e)) (Heap.get?_none_of_le (Nat.le_succ _)) (Heap.get?_none_of_le (Nat.le_refl _)))
  have := (N.push F emptyDict).push (F.push _) (listInst C hh.objs.size)
  rwa [Heap.size_push] at this
theorem osaL_open {ox : Obj} {od : Option Obj} {name : Str} {tk : Tok} {v : Value} {cd : ClassData} (X : K.In s.heap) (I : InstAt s.heap x ox C od) (hc : clsIn K C = some cd) (hmro : cd.mro = [.ref C, .type "list", .type "object"]) (ht : takerIn K C name = some none)
    (h : ∀ b, wpAny (model prog w) A.in1 (storeInOwnDict (.ref x) (.ref C) (.str name tk) name v b)
      (fun fin s' => match fin with | .done f => R (.ok f) s' | .again c' => c'.quiet = true ∧ codeAny (model prog w) A c' R s') (fun e s' => R (.error e) s') s) :
    codeAny (model prog w) A (.call (.builtin "object.__setattr__") ⟨[.ref x, .str name tk, v], []⟩) R s := by
  have SF := PySem.F.store_object
  have ne : cd.mro.isEmpty = false := by rw [hmro]; rfl
  have sub : Looks (model prog w) s.heap (isInstance (.ref x) (.type "object")) true := I.type.andThen (looks_mroIn X (by unfold mroIn; rw [hc, Option.bind_some, if_neg (by rw [ne]; decide), hmro]; simp))
  refine codeAny_call_builtin SF.slot.plain SF.entry (@check_slot (model prog w) _ _ s "object.__setattr__" "object" "__setattr__" (.ref x) [.str name tk, v] [] _ SF.kind SF.split sub (SF.args (.ref x) (.str name tk) v) ?_)
  obtain ⟨attr, ha, hr⟩ := Option.bind_eq_some_iff.mp ht
  have hm : Looks (model prog w) s.heap (mroOf (.ref C)) cd.mro := (looks_clsIn X hc).andThen .now
  have L3 : Looks (model prog w) s.heap (storeTaker? attr) none := by
    cases attr with
    | none => exact .now
    | some a =>
      obtain ⟨b, hb, hr⟩ := Option.map_eq_some_iff.mp hr
      refine (looks_takesIn X hb).andThen ?_
      cases b
      · exact .now
      · cases hr
  rw [osa_eq, refuse_eq]
  refine wpAny_bind (wpAny_bind (I.type.here (wpAny_bind (hm.here ?_))))
  rw [hmro, refuseLoop_ref, refuse_list]
  refine wpAny_pure (wpAny_bind (I.type.here (wpAny_bind ((looks_findIn X ha).here (wpAny_bind (L3.here ?_))))))
  exact h _
theorem osaL_dict {ox od od' : Obj} {dx : Addr} {name : Str} {tk : Tok} {v : Value} {pre post : List (Addr × Obj)} {es : List DictEntry} {n : Nat} {cd : ClassData} (F : Fr h₀ L s.heap m) (N : News h₀ L s.heap (pre ++ (dx, od) :: post)) (X : K.In s.heap)
    (I : InstAt s.heap x ox C (some od)) (hd : ox.dict = some dx) (hc : clsIn K C = some cd) (hmro : cd.mro = [.ref C, .type "list", .type "object"]) (ht : takerIn K C name = some none) (hd' : cd.hasDict = true)
    (hl : (lookIn name od).isSome = true) (h1 : ∀ p ∈ pre, p.1 ≠ dx) (h2 : ∀ p ∈ post, p.1 ≠ dx)
    (e : Obj.putName name (PyData.keyHash w.params name) (.str name s.toks) v od = od') (e' : od'.data = .dict es.toArray n) (hz : es.length ≤ 1000)
    (h : ∀ h', Fr h₀ L h' m → News h₀ L h' (pre ++ (dx, od') :: post) → R (.ok (.ret .none)) { s with heap := h', toks := s.toks + 1 }) :
    codeAny (model prog w) A (.call (.builtin "object.__setattr__") ⟨[.ref x, .str name tk, v], []⟩) R s := by
  refine osaL_open X I hc hmro ht fun b => ?_
  obtain ⟨U1, U2⟩ := news_upd (f := Obj.putName name (PyData.keyHash w.params name) (.str name s.toks) v) F N h1 h2 e (by obtain ⟨_, _, dd, _⟩ := od'; cases e'; rfl)
  have D := (N (dx, od) (by simp)).1
  have D' := (U2 (dx, od') (by simp)).1
  obtain ⟨hx, hcl, hn, -⟩ := I
  obtain ⟨oc, odi, oda, osl⟩ := ox
  dsimp only at hcl hd
  subst hcl hd
  refine wpAny_bind (wpAny_pure (wpAny_bind (wpAny_bind (wpAny_loadPart hx (wpAny_bind ((looks_clsIn X hc).here ?_))))))
  rw [hd']
  refine wpAny_pure (a := some dx) (wpAny_bind (wpAny_pure (wpAny_bind ?_)))
  unfold nsSet
  refine wpAny_bind (wpAny_bind (wpAny_askSetting (wpAny_pure (wpAny_bind (wpAny_mkText (wpAny_bind (wpAny_loadPart D ?_)))))))
  unfold lookIn at hl
  split at hl
  · rename_i es₀ n₀ q
    rw [q]
    dsimp only
    have c : (!es₀.any (·.key.isStr name) && es₀.any (·.refKey)) = false := by
      rw [← Array.any_toList, ← Array.any_toList]
      split at hl
      · rename_i en he
        rw [List.any_eq_true.mpr ⟨en, List.mem_of_find?_eq_some he, List.find?_some he⟩]; rfl
      · split at hl
        · cases hl
        · rename_i z; rw [Bool.not_eq_true] at z; rw [z, Bool.and_false]
    rw [aRefKeyMayBeTheName_at, c]
    refine wpAny_updatePart D ?_
    refine wpAny_bind (wpAny_lookBehind D' (by rw [e']; exact pastItsLine_dict (by rw [List.size_toArray, sizeLine_eq]; omega)) ?_)
    exact wpAny_pure (h _ U1 U2)
  · cases hl
theorem set_dictL {E : Value → Shared → Prop} {Q : Unit → Shared → Prop} {ox : Obj} {dx : Addr} {name : Str} {v : Value} {es es' : List DictEntry} {n n' : Nat} {news' : List (Addr × Obj)} {cd : ClassData} (F : Fr h₀ L s.heap m) (X₀ : K.In h₀) (N : News h₀ L s.heap news) (I : InstAt s.heap x ox C (some (dictOf es n))) (hd : ox.dict = some dx)
    (hs : findIn K (.ref C) "__setattr__" = some (some (.builtin "object.__setattr__"))) (hc : clsIn K C = some cd) (hmro : cd.mro = [.ref C, .type "list", .type "object"]) (ht : takerIn K C name = some none) (hh : cd.hasDict = true) (hl : (getL name es).isSome = true)
    (e : (putL name (PyData.keyHash w.params name) (.str name (s.toks + 1)) v es, putN name es n) = (es', n')) (U : Upd dx (dictOf es n) (dictOf es' n') news news') (hz : es'.length ≤ 1000)
    (h : ∀ h', Fr h₀ L h' m → News h₀ L h' news' → Q () { s with heap := h', toks := s.toks + 2 }) :
    wpAny (model prog w) A (setAttr (.ref x) name v) Q E s := by
  obtain ⟨pre, post, rfl, rfl, a, b⟩ := U.split
  obtain ⟨e1, e2⟩ := Prod.mk.inj e
  exact set_plain (X₀.keeps F.keep) I hs (osaL_dict (s := { s with toks := s.toks + 1 }) F N (X₀.keeps F.keep) I hd hc hmro ht hh hl a b (by rw [putName_dict, e1, e2]) rfl hz fun h' F' N' => h h' F' N')
end
theorem k_makes (P : Params) : makesLIn (hd.heap_1 P) 150 = true := by kernel_rfl
theorem k_finit (P : Params) : findIn (hd.heap_1 P) (.ref 150) "__init__" = some (some (.ref 87)) := by kernel_rfl
theorem k_fset (P : Params) : findIn (hd.heap_1 P) (.ref 150) "__setattr__" = some (some (.builtin "object.__setattr__")) := by kernel_rfl
theorem k_mro (P : Params) : (clsIn (hd.heap_1 P) 150).map (fun cd => (cd.mro, cd.hasDict)) = some ([.ref 150, .type "list", .type "object"], true) := by kernel_rfl
theorem k_taker (P : Params) : takerIn (hd.heap_1 P) 150 "_initial_size" = some none := by kernel_rfl
theorem k_finit_t (P : Params) : typeIn (hd.heap_1 P) (.ref 87) = some (.type "function") := by kernel_rfl
end Mine
end
open PySem PySem.W PyProof.Rows Mine in
local macro_rules | `(tactic| k_inst) => `(tactic| exact Mine.accInst (News.get (by k_asm) (by k_mem)) (News.get (by k_asm) (by k_mem)))
-- BCSupD
section
open PySem PySem.W PyProof.Rows PySem.Calls
set_option maxRecDepth 100000
set_option maxHeartbeats 4000000
namespace Mine
theorem off8 : True := by
  w_top off
  k_with_none
  exact trivial
theorem fill12 : (Challenge.rw_re0104_02, hd.heap_1) = (Challenge.rw_re0104_02, hd.heap_1) := by
  k_fill
  rfl
section
variable {prog : Program} {w : World} {A₀ A : Around} {s : Shared} {base h₀ : Heap} {outer : List Env} {L : Addr} {m mg mb : Str → Option Value} {env : Env} {news : List (Addr × Obj)} {K : Frag} {p : Program} {loose : List Str} {mean : ExcName → Option Value}
  {R : Result → Shared → Prop} {name qual : Str} {params : Arguments} {body : List Stmt} {scope : Scope} {dV kV doc pm cdv ct oc : Value} {an od : Option Addr} {osl : Array (Option Value)} {f cc : Addr} {args : Args} {binds : List (Str × Value)}
theorem enterS_K (B : Below A₀ base outer h₀) (F : Fr h₀ L s.heap m) (X₀ : K.In h₀) (N : News h₀ L s.heap news) (T : Top p loose mean mg mb h₀) (hA : A.frames = some (env :: outer)) (hf : env.frame = some L) (hke : env.scope.kind = .function)
    (ho : K.lookup f = some ⟨oc, od, .func (ksFn name qual params body scope dV kV doc pm an cdv ct cc), osl⟩) (hcd : codeIn K cdv qual = true) (hroom : A.depth < recursionLimit)
    (hbind : BindsTo s (ksFn name qual params body scope dV kV doc pm an cdv ct cc) args binds) (hloc : ∀ y ∈ binds, scope.names.lookup y.1 = some .local)
    (h : ∀ g L' h₁, Grd news s.heap g → Fr h₀ L g m → Fr g L' h₁ (fun y => binds.reverse.lookup y) → News g L' h₁ news → Below A base (env :: outer) g → K.In g → Top p loose mean mg mb g → (∀ p ∈ news, p.1 < L') →
      _root_.PySem.wpAt (model prog w) (A.deeper (ksEnv qual scope L' f cdv cc)) (.func body (ksEnv qual scope L' f cdv cc)) (execs body (ksEnv qual scope L' f cdv cc))
        (fun fl s' => LeaveK h₀ L m g R (match fl with | .ret v => v | _ => .none) s')
        (fun e s' => wpAny (model prog w) (A.deeper (ksEnv qual scope L' f cdv cc)) (leaving (ksEnv qual scope L' f cdv cc) e) (fun _ s'' => R (.error e) s'') (fun e' s'' => R (.error e') s'') s')
        { s with heap := h₁, toks := s.toks + binds.length })
    (hcell : ∀ x ∈ scope.names, x.2 ≠ .cell) (hco : scope.isCoroutine = false) (hgen : scope.isGenerator = false) (hk : scope.kind = .function) : codeAny (model prog w) A (.call (.ref f) args) R s := by
  obtain ⟨FG, BG, st, lv⟩ := groundX (R := R) B F N hA hf hke
  refine ks_codeAny_call_defAt (fd := ksFn name qual params body scope dV kV doc pm an cdv ct cc) (body := body) (binds := binds) hroom ((X₀.keeps F.keep) _ _ ho) rfl (T.nolimit.keeps F.keep) (codeRec_of (X₀.keeps F.keep) hcd) rfl hbind hcell hloc (fun h₁ hns hk₁ => ?_) hco hgen hk
  exact ks_wpAt_mono (h _ s.heap.objs.size h₁ (grd_hide _ _) FG ⟨hns, fun b o e => hk₁ b o (of_hideAll _ e), Nat.le_of_eq (hideAll_size _ _)⟩
    (fun p hp => ⟨hk₁ _ _ (N p hp).1, Nat.ne_of_lt (Heap.lt_size (N p hp).1), hideAll_none _ (List.mem_map_of_mem hp)⟩) BG (X₀.keeps st) (T.keeps st) (fun p hp => Heap.lt_size (N p hp).1)) (fun fl s' hl => lv _ _ hl) fun _ _ y => y
end
theorem lineCSupD1 : True := by
  k_with "getMethod ref" => (k_here; (with_reducible show wpAny _ _ (getMethod (Value.ref _) (PySem.Str.ofString "__len__") _) _ _ _); k_dflt (refine' sup_method ?zF ?zX ?zN ?zs ?zx ?zd (k_slen _) typ_len slot_wd_get entry_wd_get (args_wd_get _ _ _) (wd_len _ _) (by decide) ?_; (case zF => k_asm); (case zX => k_asm); (case zN => k_asm); (case zs => k_mem); (case zx => k_mem); (case zd => k_mem); k_whole); intro kzq kzh kzF kzN kzl; (try k_lt kzl))
  exact trivial
theorem lineCSupD2 : True := by
  k_with "callWith ref" => (k_here; (with_reducible show wpAny _ _ (callWith _ (Value.ref _) [] (backTo _ (starEach [] _)) []) _ _ _); k_dflt (refine' callWith_B0 ?zT ?zX ?_; (case zX => exact News.get (by k_asm) (by k_mem)); (case zT => first | exact Or.inl rfl | exact Or.inr rfl); k_whole; try dsimp only [List.nil_append, List.cons_append]))
  exact trivial
theorem lineCSupD3 : True := by
  k_with "call ref" => (k_here; (with_reducible show wpAny _ _ (call (Value.ref _) []) _ _ _); k_dflt (refine' bcall_len ?zN ?zq ?zx ?_; (case zN => k_asm); (case zq => k_mem); (case zx => k_mem); k_whole))
  exact trivial
theorem count_ok (w : World) (mean : ExcName → Option Value) (mg mb : Str → Option Value) (x dx : Addr) (its : List Value) (n : Nat) (dob : Obj) :
    CallOk w mean mg mb [(x, accObj dx its.toArray n), (dx, dob)] 3 147 [.ref x] (fun r nw => ∃ t, r = .int its.length t ∧ nw = [(x, accObj dx its.toArray n), (dx, dob)]) := by
  unfold CallOk
  intro dp un gd cn cs a' ccd cl outer A₀ base h₀ L m s Q E B F X N T hk hdp hun hret
  refine wpAny_call ?_
  (refine' enterS_K ?k1 ?k2 ?k3 ?k4 ?k5 ?kA ?kF ?kK ?k6 ?k7 ?k8 ?k9 ?kB ?_ ?c5 ?c2 ?c3 ?c4; (case kA => exact rfl); (case kF => exact rfl); (case kK => assumption); (case k1 => k_asm); (case k2 => k_asm); (case k3 => k_asm); (case k4 => k_asm); (case k5 => k_asm); (case k6 => k_is); (case k7 => k_is); (case k8 => first | exact room0 hdp | ktr_room); (case k9 => exact BindsTo.of_eq rfl); (case c5 => decide); (case kB => exact locs rfl); (case c2 => exact rfl); (case c3 => exact rfl); (case c4 => exact rfl); intro g L' h' G FG F' N' B' X' T' l1; (try dsimp only); (try k_fold))
  k_steps
  with_reducible rename Fr h₀ _ _ _ => Fe
  with_reducible rename News h₀ _ _ _ => Ne
  with_reducible rename News g _ _ _ => Ng
  with_reducible rename Fr g _ _ _ => Fg
  refine hret _ [(x, accObj dx its.toArray n), (dx, dob)] _ _ Fe (newsSub Ne (by kcj_all)) (G.back Fg (newsSub Ng (by kcj_all))) ⟨_, by rw [List.size_toArray], rfl⟩
end Mine
end
-- BCMake3
section
open PySem PySem.W PyProof.Rows PySem.Calls
set_option maxRecDepth 100000
set_option maxHeartbeats 4000000
namespace Mine
theorem off9 : True := by
  w_top off
  k_with_none
  exact trivial
theorem fill21 : (Challenge.rw_re0104_02, hd.heap_1) = (Challenge.rw_re0104_02, hd.heap_1) := by
  k_fill
  rfl
/-- the instance's own dict -/
structure OwnDict (o : Obj) : Prop where
  is : ∃ hs k tv, o = dictOf [⟨hs, .str "_initial_size" k, .int 0 tv⟩] 1
theorem OwnDict.shadow {o : Obj} (D : OwnDict o) (name : Str) (hn : ((Str.ofString "_initial_size") == name) = false) : shadowIn (some o) name = some false := by
  obtain ⟨hs, k, tv, rfl⟩ := D.is
  show (getL name [⟨hs, .str "_initial_size" k, .int 0 tv⟩]).map (·.isSome) = some false
  unfold getL
  have e : (Value.str "_initial_size" k).isStr name = false := hn
  simp only [List.find?_cons, e, List.find?_nil, List.any_cons, List.any_nil]
  rfl
theorem acc_set {w : World} {A : Around} {E : Value → Shared → Prop} {s : Shared} {h₀ : Heap} {L x dx : Addr} {m : Str → Option Value} {tv : Tok} {Q : Unit → Shared → Prop} (F : Fr h₀ L s.heap m) (X : (hd.heap_1 w.params).In h₀) (N : News h₀ L s.heap [(x, accObj dx #[] 0), (dx, dictOf [] 0)]) (hne : dx < x)
    (h : ∀ h' hs k, Fr h₀ L h' m → News h₀ L h' [(x, accObj dx #[] 0), (dx, dictOf [⟨hs, .str "_initial_size" k, .int 0 tv⟩] 1)] → Q () { s with heap := h', toks := s.toks + 2 }) :
    wpAny (model Challenge.rw_re0104_02.row.prog w) A (setAttr (.ref x) (Str.ofString "_initial_size") (.int 0 tv)) Q E s := by
  cases hc : clsIn (hd.heap_1 w.params) 150 with
  | none => have z := k_mro w.params; rw [hc] at z; cases z
  | some cd =>
    have z := k_mro w.params
    rw [hc] at z
    have z' : (cd.mro, cd.hasDict) = ([.ref 150, .type "list", .type "object"], true) := Option.some.inj z
    obtain ⟨z1, z2⟩ := Prod.mk.inj z'
    exact set_dictL (es' := [⟨PyData.keyHash w.params (Str.ofString "_initial_size"), .str (Str.ofString "_initial_size") (s.toks + 1), .int 0 tv⟩]) (n' := 1) F X N (accInst (N _ (.head _)).1 (N _ (.tail _ (.head _))).1) rfl (k_fset _) hc z1 (k_taker _) z2 rfl rfl (.tail (Nat.ne_of_gt hne) (.head (fun _ h => nomatch h))) (Nat.le_of_ble_eq_true rfl) fun h' F' N' => h h' _ _ F' N'
theorem lineCMake31 : True := by
  k_with "setAttr ref" => (k_here; k_dflt (refine' acc_set ?zF ?zX ?zN ?zl ?_; (case zF => k_asm); (case zX => k_asm); (case zN => k_asm); (case zl => assumption)); intro kzh kzs kzk kzF kzN)
  exact trivial
theorem lineCMake32 : True := by
  k_with "getMethod ref" => (k_here; (with_reducible show wpAny _ _ (getMethod (Value.ref _) (PySem.Str.ofString "__init__") _) _ _ _); k_dflt (refine' sup_method ?zF ?zX ?zN ?zs ?zx ?zd (k_sinit _) typ_init slot_wd_get entry_wd_get (args_wd_get _ _ _) (wd_init _ _) (by decide) ?_; (case zF => k_asm); (case zX => k_asm); (case zN => k_asm); (case zs => k_mem); (case zx => k_mem); (case zd => k_mem); k_whole); intro kzq kzh kzF kzN kzl; (try k_lt kzl))
  exact trivial
theorem lineCMake33 : True := by
  k_with "callWith ref" => (k_here; (with_reducible show wpAny _ _ (callWith _ (Value.ref _) [] (backTo _ (starEach [] _)) []) _ _ _); k_dflt (refine' callWith_B0 ?zT ?zX ?_; (case zX => exact News.get (by k_asm) (by k_mem)); (case zT => first | exact Or.inl rfl | exact Or.inr rfl); k_whole; try dsimp only [List.nil_append, List.cons_append]))
  exact trivial
theorem lineCMake34 : True := by
  k_with "call ref" => (k_here; (with_reducible show wpAny _ _ (call (Value.ref _) []) _ _ _); k_dflt (refine' bcall_init ?zF ?zN ?zq ?zU ?_; (case zF => k_asm); (case zN => k_asm); (case zq => k_mem); (case zU => k_upd); k_whole); intro kzh kzF kzN)
  exact trivial
theorem lineCMake35 : True := by
  k_with "wpAt" => (dsimp only; ks_step "execs cons"; refine ks_wpAt_execs_cons ?_)
  exact trivial
theorem lineCMake36 : True := by
  k_with "wpAt" => (ks_step "eval Call"; refine ks_wpAt_MethodCall (pl := do return (← importBound _ _).getD true) ?_ (by with_unfolding_all rfl))
  exact trivial
theorem lineCMake37 : True := by
  k_with "wpAt" => (ks_step "exec Expr"; refine ks_wpAt_Expr_any ?_ (by with_unfolding_all rfl) (by with_unfolding_all rfl))
  exact trivial
theorem make_ok (w : World) (mean : ExcName → Option Value) (mg mb : Str → Option Value) :
    CallOk w mean mg mb [] 6 150 [] (fun r nw => ∃ x dx dob, r = .ref x ∧ dx ≠ x ∧ OwnDict dob ∧ nw = [(x, accObj dx #[] 0), (dx, dob)]) := by
  unfold CallOk
  intro dp un gd cn cs a' ccd cl outer A₀ base h₀ L m s Q E B F X N T hk hdp hun hret
  refine wpAny_call (make_KL F N (X.keeps F.keep) (k_makes _) (k_finit _) (k_finit_t _) ?_)
  intro x dx h1 F1 N1 l0 l1 kp nx nd
  have l2 := l1
  k_lt2 l2
  (refine' enterS_K ?k1 ?k2 ?k3 ?k4 ?k5 ?kA ?kF ?kK ?k6 ?k7 ?k8 ?k9 ?kB ?_ ?c5 ?c2 ?c3 ?c4; (case kA => exact rfl); (case kF => exact rfl); (case kK => assumption); (case k1 => k_asm); (case k2 => k_asm); (case k3 => k_asm); (case k4 => k_asm); (case k5 => k_asm); (case k6 => k_is); (case k7 => k_is); (case k8 => first | exact room0 hdp | ktr_room); (case k9 => first | exact BindsTo.of_eq rfl | exact binds_K (by k_in) rfl (by k_is) rfl rfl rfl); (case c5 => decide); (case kB => exact locs rfl); (case c2 => exact rfl); (case c3 => exact rfl); (case c4 => exact rfl); intro g L' h' G FG F' N' B' X' T' l1'; (try dsimp only); (try k_fold))
  k_steps
  with_reducible rename Fr h₀ _ _ _ => Fe
  with_reducible rename News h₀ _ _ _ => Ne
  with_reducible rename News g _ _ _ => Ng
  with_reducible rename Fr g _ _ _ => Fg
  have Kb := G.back Fg Ng
  refine hret _ [(x, accObj dx #[] 0), (dx, _)] _ _ Fe (newsSub Ne (by kcj_all)) ⟨fun b o e n => Kb.keep b o (kp b o e) (fun hm => ?_), fun p hp => ?_⟩ ⟨x, dx, _, rfl, Nat.ne_of_lt l2, ⟨_, _, _, rfl⟩, rfl⟩
  · rcases List.mem_cons.mp hm with e1 | hm
    · rw [show b = x from e1, nx] at e; cases e
    · rcases List.mem_cons.mp hm with e1 | hm
      · rw [show b = dx from e1, nd] at e; cases e
      · cases hm
  · rcases List.mem_cons.mp hp with rfl | hp
    · exact .inl nx
    · rcases List.mem_cons.mp hp with rfl | hp
      · exact .inl nd
      · cases hp
end Mine
end
-- BCSupE
section
open PySem PySem.W PyProof.Rows PySem.Calls
set_option maxRecDepth 100000
set_option maxHeartbeats 4000000
namespace Mine
theorem off10 : True := by
  w_top off
  k_with_none
  exact trivial
theorem fill13 : (Challenge.rw_re0104_02, hd.heap_1) = (Challenge.rw_re0104_02, hd.heap_1) := by
  k_fill
  rfl
section
variable {prog : Program} {w : World} {A : Around} {E : Value → Shared → Prop} {s : Shared} {K : Frag} {C x : Addr} {ox : Obj} {od : Option Obj} {name : Str} {pl : Sem Bool} {Q : Value × List Value → Shared → Prop}
theorem method_fnL {f : Addr} (X : K.In s.heap) (I : InstAt s.heap x ox C od) (hga : findIn K (.ref C) "__getattribute__" = some (some (.builtin "list.__getattribute__"))) (hk : findIn K (.ref C) "__getattr__" = some none)
    (hf : findIn K (.ref C) name = some (some (.ref f))) (ht : typeIn K (.ref f) = some (.type "function")) (hs : shadowIn od name = some false) (h : Q (.ref f, [.ref x]) s) :
    wpAny (model prog w) A (getMethod (.ref x) name pl) Q E s := by
  have hcan := canon_lga
  unfold getMethod specialOf
  refine wpAny_bind (wpAny_bind (I.type.here ((looks_findIn X hga).here ?_)))
  dsimp only
  rw [hcan, if_neg (by decide)]
  refine wpAny_bind (wpAny_bind (I.type.here ((looks_findIn X hk).here ?_)))
  refine wpAny_bind (wpAny_bind (I.type.here ((looks_findIn X hf).here (wpAny_bind ((looks_typeIn X ht).here ?_)))))
  rw [if_neg (by decide +kernel)]
  refine wpAny_bind (wpAny_loadPart I.at_ ?_)
  have hd := I.dict
  cases e : ox.dict with
  | none => exact wpAny_bind (wpAny_rule (wpAny_pure h))
  | some dx =>
    cases od with
    | none => rw [e] at hd; exact hd.elim
    | some o =>
      rw [e] at hd
      obtain ⟨r, a, b⟩ := Option.map_eq_some_iff.mp hs
      refine wpAny_bind (wpAny_bind (wpAny_loadPart hd ?_))
      rw [nsLook_of a]
      refine wpAny_pure ?_
      rw [b]
      exact wpAny_bind (wpAny_rule (wpAny_pure h))
end
theorem k_mcount (P : Params) : findIn (hd.heap_1 P) (.ref 150) "part_count" = some (some (.ref 147)) := by kernel_rfl
theorem k_mpush (P : Params) : findIn (hd.heap_1 P) (.ref 150) "push" = some (some (.ref 94)) := by kernel_rfl
theorem k_mpop (P : Params) : findIn (hd.heap_1 P) (.ref 150) "pop" = some (some (.ref 110)) := by kernel_rfl
theorem lineCSupE1 : True := by
  k_with "getMethod ref" => (k_here; (with_reducible show wpAny _ _ (getMethod (Value.ref _) (PySem.Str.ofString "pop") _) _ _ _); k_dflt (refine' sup_method ?zF ?zX ?zN ?zs ?zx ?zd (k_spop _) typ_pop slot_md_get entry_md_get (args_md_get _ _ _) (md_pop _ _) (by decide) ?_; (case zF => k_asm); (case zX => k_asm); (case zN => k_asm); (case zs => k_mem); (case zx => k_mem); (case zd => k_mem); k_whole); intro kzq kzh kzF kzN kzl; (try k_lt kzl))
  exact trivial
theorem lineCSupE2 : True := by
  k_with "getMethod ref" => (k_here; (with_reducible show wpAny _ _ (getMethod (Value.ref _) (PySem.Str.ofString "part_count") _) _ _ _); k_dflt (refine' method_fnL ?zx ?zi (k_ga _) (k_gat _) (k_mcount _) ?zt ?zs ?_; (case zx => k_in); (case zi => k_inst); (case zt => k_is); (case zs => first | rfl | assumption); k_whole))
  exact trivial
theorem lineCSupE3 : True := by
  k_with "callWith ref" => (k_here; (with_reducible show wpAny _ _ (callWith _ (Value.ref _) [] (backTo _ (starEach [] _)) []) _ _ _); k_dflt (refine' callWith_B0 ?zT ?zX ?_; (case zX => exact News.get (by k_asm) (by k_mem)); (case zT => first | exact Or.inl rfl | exact Or.inr rfl); k_whole; try dsimp only [List.nil_append, List.cons_append]))
  exact trivial
theorem lineCSupE4 : True := by
  k_with "call ref" => (k_here; (with_reducible show wpAny _ _ (call (Value.ref _) []) _ _ _); k_dflt (refine' bcall_pop ?zF ?zX ?zN ?zq ?zU ?zz ?_; (case zF => k_asm); (case zX => k_asm); (case zN => k_asm); (case zq => k_mem); (case zU => k_upd); (case zz => assumption); k_whole); intro kzh kzF kzN)
  exact trivial
theorem lineCSupE5 : True := by
  k_with "wpAt" => (dsimp only; ks_step "execs cons"; refine ks_wpAt_execs_cons ?_)
  exact trivial
theorem lineCSupE6 : True := by
  k_with "wpAt" => (ks_step "eval Call"; refine ks_wpAt_MethodCall (pl := do return (← importBound _ _).getD true) ?_ (by with_unfolding_all rfl))
  exact trivial
theorem pop_ok (w : World) (mean : ExcName → Option Value) (mg mb : Str → Option Value) (x dx : Addr) (p : List Value) (y : Value) (n : Nat) (dob : Obj) (hdx : dx ≠ x) (hsh : shadowIn (some dob) "part_count" = some false) (hsz : p.length < sizeLine) :
    CallOk w mean mg mb [(x, accObj dx (p ++ [y]).toArray n), (dx, dob)] 6 110 [.ref x] (fun r nw => r = y ∧ nw = [(x, accObj dx p.toArray (n + 1)), (dx, dob)]) := by
  unfold CallOk
  intro dp un gd cn cs a' ccd cl outer A₀ base h₀ L m s Q E B F X N T hk hdp hun hret
  refine wpAny_call ?_
  (refine' enterS_K ?k1 ?k2 ?k3 ?k4 ?k5 ?kA ?kF ?kK ?k6 ?k7 ?k8 ?k9 ?kB ?_ ?c5 ?c2 ?c3 ?c4; (case kA => exact rfl); (case kF => exact rfl); (case kK => assumption); (case k1 => k_asm); (case k2 => k_asm); (case k3 => k_asm); (case k4 => k_asm); (case k5 => k_asm); (case k6 => k_is); (case k7 => k_is); (case k8 => first | exact room0 hdp | ktr_room); (case k9 => exact BindsTo.of_eq rfl); (case c5 => decide); (case kB => exact locs rfl); (case c2 => exact rfl); (case c3 => exact rfl); (case c4 => exact rfl); intro g L' h' G FG F' N' B' X' T' l1; (try dsimp only); (try k_fold))
  k_steps
  with_reducible rename Fr g _ _ _ => F2
  with_reducible rename News g _ _ _ => N2
  dsimp only [List.append_nil]
  refine CallOk.use (count_ok w mean mg mb x dx (p ++ [y]) n dob) B' F2 X' N2 T' rfl (by first | exact room1 hdp rfl | ktr_room) (by first | exact units1 hun rfl | ktr_units) ?_
  intro r1 nw1 h1' tk1 F1 N1 K1 hr1
  obtain ⟨t1, rfl, rfl⟩ := hr1
  clear F2 N2
  have hl1 : ((p ++ [y]).length : Int) ≠ 0 := by rw [List.length_append, List.length_singleton]; omega
  dsimp only
  k_steps
  all_goals first | (exfalso; exact hl1 (by assumption)) | skip
  with_reducible rename Fr h₀ _ _ _ => Fe
  with_reducible rename News h₀ _ _ _ => Ne
  with_reducible rename News g _ _ _ => Ng
  with_reducible rename Fr g _ _ _ => Fg
  refine hret _ [(x, accObj dx p.toArray (n + 1)), (dx, dob)] _ _ Fe (newsSub Ne (by kcj_all)) (G.back Fg (newsSub Ng (by kcj_all))) ⟨rfl, rfl⟩
end Mine
end
-- BCOth
section
open PySem PySem.W PyProof.Rows PySem.Calls
set_option maxRecDepth 100000
set_option maxHeartbeats 4000000
namespace Mine
/-- neither an accumulator nor a dict -/
def Oth (o : Obj) : Prop := (∃ vs, o.data = .fields vs) ∨ o.cls = .type "tuple" ∨ o.cls = .type "list" ∨ o.cls = .type "range_iterator"
theorem rLed_oth {P : List Part} : ∀ q ∈ rLed P, Oth q.2 := fun q hq => by
  obtain ⟨p, _, rfl⟩ := List.mem_map.mp hq; exact .inr (.inl rfl)
theorem acc_not_oth {dx : Addr} {its : Array Value} {n : Nat} : ¬ Oth (accObj dx its n) := by
  rintro (⟨vs, h⟩ | h | h | h) <;> cases h
theorem dob_not_oth {o : Obj} (h : OwnDict o) : ¬ Oth o := by
  obtain ⟨hs, k, tv, rfl⟩ := h.is
  rintro (⟨vs, h⟩ | h | h | h)
  · cases h
  · exact absurd (show Value.type "dict" = Value.type "tuple" from h) (by decide)
  · exact absurd (show Value.type "dict" = Value.type "list" from h) (by decide)
  · exact absurd (show Value.type "dict" = Value.type "range_iterator" from h) (by decide)
theorem dis_acc {x dx : Addr} {its : Array Value} {n : Nat} {dob : Obj} (hd : OwnDict dob) {rest : Ledg} (hr : ∀ q ∈ rest, Oth q.2) {h₀ h : Heap} {L : Addr} (N : News h₀ L h ([(x, accObj dx its n), (dx, dob)] ++ rest)) : ∀ p ∈ rest, p.1 ∉ [(x, accObj dx its n), (dx, dob)].map (·.1) := by
  intro p hp hm
  simp only [List.map_cons, List.map_nil, List.mem_cons, List.not_mem_nil, or_false] at hm
  rcases hm with e | e
  · have so := sameObj N (List.mem_append_right _ hp) (List.mem_append_left _ (.head _)) e
    exact acc_not_oth (so ▸ hr p hp)
  · have so := sameObj N (List.mem_append_right _ hp) (List.mem_append_left _ (.tail _ (.head _))) e
    have z := hr p hp
    rw [so] at z
    exact dob_not_oth hd z
theorem push_okP (w : World) (mean : ExcName → Option Value) (mg mb : Str → Option Value) (x dx : Addr) (P : List Part) (n : Nat) (dob : Obj) (a b : Str) (ta tb : Tok) (hdx : dx ≠ x) (hsh : shadowIn (some dob) "append" = some false) (hsz : (rIts P).length ≤ sizeLine) :
    CallOk w mean mg mb [(x, accObj dx (rIts P).toArray n), (dx, dob)] 3 94 [.ref x, .str a ta, .str b tb] (fun r nw => ∃ p : Part, (p.a, p.b) = (a, b) ∧ r = .none ∧ nw = [(x, accObj dx (rIts (P ++ [p])).toArray (n + 1)), (dx, dob), (p.at_, tup2 (.str p.a p.ta) (.str p.b p.tb))]) :=
  (push_ok w mean mg mb x dx (rIts P) n dob a b ta tb hdx hsh hsz).mono (Nat.le_refl _) fun r nw ⟨q, h1, h2⟩ => ⟨⟨q, a, ta, b, tb⟩, rfl, h1, by rw [h2]; simp⟩
theorem not_iter {I a : Addr} {o : Obj} {z k : Int} {h₀ h : Heap} {L : Addr} {news : Ledg} (N : News h₀ L h news) (h1 : (I, itR z k) ∈ news) (h2 : (a, o) ∈ news) (hc : o.cls = .type "tuple") : a ≠ I := by
  intro e
  have so := sameObj N h2 h1 e
  have so' : o = itR z k := so
  rw [so'] at hc
  exact absurd (show Value.type "range_iterator" = Value.type "tuple" from hc) (by decide)
end Mine
end
-- E0
section
open PySem PySem.W PyProof.Rows PySem.Calls
set_option maxRecDepth 100000
set_option maxHeartbeats 400000
namespace Mine
section
variable {w : World} {A : Around} {E : Value → Shared → Prop} {s : Shared} {x dx : Addr} {its : Array Value} {n : Nat} {od : Obj} {name : Str} {v : Value} {Q : Value → Shared → Prop}
open Builtin.ObjectAttr in
theorem getattr_L (X : (hd.heap_1 w.params).In s.heap) (h1 : s.heap.get? x = some (accObj dx its n)) (h2 : s.heap.get? dx = some od) (hf : findObj (hd.heap_1 w.params) 150 (some od) name = some (.value v)) (hh : handedIn v = true) (h : Q v { s with toks := s.toks + 1 }) :
    wpAny (model Challenge.rw_re0104_02.row.prog w) A (getAttr (.ref x) name true) Q E s := by
  have I := accInst h1 h2
  obtain ⟨hh', g, d, tk, os⟩ := s
  have L0 := I.type (M := model Challenge.rw_re0104_02.row.prog w)
  have L1 := looks_findIn (M := model Challenge.rw_re0104_02.row.prog w) X (k_ga _)
  have L2 := looks_findIn (M := model Challenge.rw_re0104_02.row.prog w) X (k_gat _)
  have L3 := looks_find (M := model Challenge.rw_re0104_02.row.prog w) X I hf
  have L4 := acc_isList (w := w) X h1 h2
  unfold getAttr
  refine wpAny_bind (wpAny_mkText ?_)
  unfold getAttrBy
  refine wpAny_holding (wpAny_bind (L0.at (wpAny_bind (L1.at ?_))))
  show wpAny _ _ (getAttrByItsOwn _ _ _ _ _ _) _ _ _
  unfold getAttrByItsOwn
  refine wpAny_bind (L2.at ?_)
  refine wpAny_bind (wpAny_attempt (wpAny_holding ?_))
  show wpAny _ _ (boundAndCalled _ _ _) _ _ _
  unfold boundAndCalled
  rw [F.slot_list_getattribute.bind (.ref x)]
  refine wpAny_bind (wpAny_pure ?_)
  refine call_sub (owner := "list") (n := "__getattribute__") (.inl (by decide +kernel)) (by decide +kernel) (by decide +kernel) F.entry_list_ga L4 (F.args_list_getattribute_2 _ _) ?_
  unfold Builtin.«object.__getattribute__»
  refine wpAny_bind (wpAny_pure (wpAny_bind (wpAny_pure (wpAny_bind (L0.at (wpAny_bind (L3.at ?_)))))))
  refine wpAny_pure ⟨v, rfl, ?_⟩
  show wpAny _ _ (handedOut v) _ _ _
  rw [handedOut_of hh]
  exact wpAny_pure h
end
end Mine
end
-- E1
section
open PySem PySem.W PyProof.Rows PySem.Calls
set_option maxRecDepth 100000
set_option maxHeartbeats 4000000
namespace Mine
theorem off11 : True := by
  w_top off
  k_with_none
  exact trivial
theorem args_sum2 (a b : Value) : argsOk "sum" ⟨[a, b], []⟩ := by unfold argsOk; kernel_rfl
section
variable {prog : Program} {w : World} {A : Around} {E : Value → Shared → Prop} {s : Shared}
theorem call_sum2 {x : Value} {t : Tok} {Q : Value → Shared → Prop}
    (h : wpAny (model prog w) A.in1 (pyIter x) (fun it s₂ => ∃ I fp wr G n P St val, it = .ref I ∧ WalksS prog w A.in1 I fp wr G n P St ∧ St 0 s₂ ∧ (∀ b ∈ fp, b < s₂.heap.objs.size) ∧
      (∀ i v, P i v → ∃ t, v = .int (val i) t) ∧
      ∀ s' t', Moved wr G s₂ s' → Q (.int (preSum val n) t') s') E s) :
    wpAny (model prog w) A (call (.builtin "sum") [x, .int 0 t]) Q E s := by
  refine call_function_tree F.kind_sum F.plain_sum F.entry_sum (args_sum2 _ _) ?_
  unfold Builtin.«sum»
  simp only [List.length_cons, List.length_nil]
  rw [if_neg (by decide)]
  refine wpAny_bind (wpAny_of_eq (show Builtin.Builtins.bindParams "sum" ["start"] 0 ⟨[.int 0 t], []⟩ = pure [some (.int 0 t)] from rfl) ?_)
  refine wpAny_bind (wpAny_mono h (fun it s₂ h₂ => ?_) fun _ _ e => e)
  refine hideG ?_; intro HP back; obtain ⟨I, fp, wr, G, n, P, St, val, rfl, W, hst, hfp, hval, hQ⟩ := h₂; refine back ?_; clear back HP
  dsimp only
  rw [if_pos (by decide)]
  refine wpAny_bind (wpAny_rule (wpAny_bind (wpAny_mkInt (wpAny_bind (wpAny_pure ?_)))))
  simp only [List.forIn_cons, List.forIn_nil]
  refine wpAny_bind (wpAny_bind (wpAny_bind (wpAny_isInstance (T := "int") (b := false) (typeIs_int _ _ _) PySem.sub_int_str ?_)))
  simp only [Bool.false_eq_true, if_false]
  refine wpAny_pure (wpAny_bind (wpAny_bind (wpAny_isInstance (T := "int") (b := false) (typeIs_int _ _ _) PySem.sub_int_bytes ?_)))
  simp only [Bool.false_eq_true, if_false]
  refine wpAny_pure (wpAny_bind (wpAny_bind (wpAny_isInstance (T := "int") (b := false) (typeIs_int _ _ _) PySem.sub_int_bytearray ?_)))
  simp only [Bool.false_eq_true, if_false]
  refine wpAny_pure (wpAny_pure ?_)
  refine wpAny_bind (wpAny_newObj_type ?_)
  have hSf : s₂.heap.objs.size ∉ fp := fun hm => Nat.lt_irrefl _ (hfp _ hm)
  refine wpAny_pure ⟨plainId_quiet F.plain_sum_loop _, codeAny_sum_loopAnyS W val hval s₂.heap.objs.size hSf n 0 _ s₂.toks 0 0 (.inl rfl) rfl (Nat.zero_le _)
    (W.frame 0 s₂ _ _ hst (by first | exact Nat.le_refl _ | exact Nat.le_succ _ | omega) fun b _ o e => Heap.get?_push_of_some _ e) (Heap.get?_push_size _ rfl) fun s' t' hm => ?_⟩
  exact hQ s' t' (hm.drop_new (by first | exact Nat.le_refl _ | exact Nat.le_succ _ | omega))
end
section
variable {w : World} {A : Around} {E : Value → Shared → Prop} {s : Shared} {h₀ : Heap} {L : Addr} {m : Str → Option Value} {news : Ledg}
theorem sumK {a : Addr} {n : Nat} {Fp : Nat → Value → Prop} {t : Tok} {Q : Value → Shared → Prop} (F : Fr h₀ L s.heap m) (N : News h₀ L s.heap news) (hG : AllBare s.gens) (X : GenK PRG w A h₀ L a n Fp news s) (val : Nat → Int) (hval : ∀ j v, Fp j v → ∃ u, v = .int (val j) u)
    (h : ∀ h' tk gs t', Fr h₀ L h' m → News h₀ L h' news → AllBare gs → Q (.int (preSum val n) t') { s with heap := h', toks := tk, gens := gs }) :
    wpAny (model PRG w) A (call (.builtin "sum") [.ref a, .int 0 t]) Q E s := by
  refine hideG ?_; intro HP back; obtain ⟨fp, wr, g, St, W, hst, hT, ha, hfp, hwr⟩ := X; refine back ?_; clear back HP
  have W := W.in4_1
  refine call_sum2 (W.self 0 _ _ _ hst ⟨a, _, _, _, _, _, _, val, rfl, W, hst, hfp, hval, fun s' t' hm => ?_⟩)
  have f1 : Fr h₀ L s'.heap m := F.moved hm fun b hb => (hwr b hb).1
  have g1 : AllBare s'.gens := hG.movedS hm
  have n1 : News h₀ L s'.heap news := fun p hp => ⟨hm.heap _ _ (fun hb => (hwr _ hb).2 p hp rfl) (N p hp).1, (N p hp).2⟩
  refine hideG ?_; intro HP back; obtain ⟨hh', gs', d', tk', os'⟩ := s'; refine back ?_; clear back HP
  have hd := hm.drawn
  have ho := hm.os
  dsimp only at hd ho
  subst hd ho
  exact h hh' tk' gs' t' f1 n1 g1
end
theorem GenK.tok {prog : Program} {w : World} {A : Around} {h₀ : Heap} {L a : Addr} {n : Nat} {Fp : Nat → Value → Prop} {news : Ledg} {s : Shared} {k : Nat} (X : GenK prog w A h₀ L a n Fp news s) (hk : s.toks ≤ k) : GenK prog w A h₀ L a n Fp news { s with toks := k } := by
  refine hideG ?_; intro HP back; obtain ⟨fp, wr, g, St, W, hst, hT, ha, hfp, hwr⟩ := X; refine back ?_; clear back HP
  exact ⟨fp, wr, g, St, W, W.frame 0 s s.heap k hst hk (fun b _ o e => e), hT, ha, hfp, hwr⟩
theorem fillE1 : (Challenge.rw_re0104_02, hd.heap_1) = (Challenge.rw_re0104_02, hd.heap_1) := by
  k_fill
  rfl
abbrev qLen : Str := Str.ofString "_Accumulator.__len__" ++ ".<locals>." ++ "<genexpr>"
theorem codeHd_len {P : Params} {h : Heap} (X : (hd.heap_1 P).In h) : CodeHd h 116 112 := codeHd_of_K X (by kernel_rfl)
theorem k_flen (P : Params) : findIn (hd.heap_1 P) (.ref 150) "__len__" = some (some (.ref 117)) := by kernel_rfl
theorem k_flen_t (P : Params) : isFn (hd.heap_1 P) (.ref 117) = true := by kernel_rfl
theorem k_len0 (P : Params) : nsIn (hd.heap_1 P) mainGlobals "len" = some none := by k_is
section
variable {w : World} {A : Around} {E : Value → Shared → Prop} {u : Shared} {h₀ : Heap} {C : Addr} {m mg mb : Str → Option Value} {p : Program} {loose : List Str} {mean : ExcName → Option Value} {env : Env}
theorem nameB_G {K : Frag} {x : Str} {pos : Pos} {v : Value} {Q : Value → Shared → Prop} (F : Fr h₀ C u.heap m) (X : K.In h₀) (T : TopRead p loose mg mb h₀) (e : nsIn K mainGlobals x = some none) (hv : bootBuiltins x = some v) (hn : x ≠ "__name__") (h : Q v u)
    (hg : env.globals = mainGlobals) (hb : env.builtins = builtinsNs) (hk : env.scope.kind = .function) (hx : env.kindOf x = some .globalImplicit) (hd : (x == ("__debug__" : Str)) = false) : wpAny (model PRG w) A (eval (.Name x pos) env) Q E u :=
  Name_function_global hk hx (loadGlobal_builtin (env := env) (by rw [hg]; exact T.g.keeps F.keep) (mg_none_of X T.g e) (by rw [hb]; exact T.b.keeps F.keep) ((T.builtins x hn).trans hv) h) hd
theorem elt_len {p1 p2 p3 p4 p5 p6 p7 : Pos} {xa xb : Str} {a b : Str} {ta tb : Tok} (F : Fr h₀ C u.heap m) (X : (hd.heap_1 w.params).In h₀) (T : Top p loose mean mg mb h₀) (hC : env.locals = C) (hg : env.globals = mainGlobals) (hbn : env.builtins = builtinsNs) (hk : env.scope.kind = .function)
    (hx : env.kindOf (Str.ofString "len") = some .globalImplicit) (hla : env.scope.names.lookup xa = some .local) (hlb : env.scope.names.lookup xb = some .local) (hda : (xa == ("__debug__" : Str)) = false) (hdb : (xb == ("__debug__" : Str)) = false)
    (ha : m xa = some (.str a ta)) (hb : m xb = some (.str b tb)) (hl : a.length < 100 ∧ b.length < 100)
    (hs1 : starEach [.Name xa p2] env = [(false, eval (.Name xa p2) env)]) (hs2 : starEach [.Name xb p5] env = [(false, eval (.Name xb p5) env)]) :
    wpAny (model PRG w) A (eval (.BinOp (.Call (.Name (Str.ofString "len") p1) [.Name xa p2] [] p3) .Add (.Call (.Name (Str.ofString "len") p4) [.Name xb p5] [] p6) p7) env) (fun y s₃ => (∃ t, y = .int ((a.length : Int) + (b.length : Int)) t) ∧ Keeps u s₃) E u := by
  subst hC
  refine wpAny_BinOp (Call_Name1 ?_ hs1)
  refine nameB_G F X (topRead_of T) (k_len0 _) boot_len (by decide) ?_ hg hbn hk hx (by decide)
  refine PySem.callWith_builtin1 (ldG F.ns ha ?_ hk hla hda)
  refine len_str (by omega) ?_
  refine Call_Name1 ?_ hs2
  refine nameB_G F X (topRead_of T) (k_len0 _) boot_len (by decide) ?_ hg hbn hk hx (by decide)
  refine PySem.callWith_builtin1 (ldG F.ns hb ?_ hk hlb hdb)
  refine len_str (by omega) ?_
  refine wpAny_add_int ?_
  exact ⟨⟨_, rfl⟩, _, _, rfl, fun b o e => e⟩
end
/-- what a row's parts are long in all -/
def rSum (R : List Part) : Int := preSum (fun j => ((R.getD j part0).a.length : Int) + ((R.getD j part0).b.length : Int)) R.length
set_option maxHeartbeats 1000000 in
theorem len_ok0 (w : World) (mean : ExcName → Option Value) (mg mb : Str → Option Value) (x dx : Addr) (R : List Part) (n : Nat) (dob : Obj) {ps : Array Value} {ex : Ledg} (hdo : OwnDict dob) (ht : Tab 129 19 qLen ps ex) (hR : R.length < 100) (hl : ∀ p ∈ R, p.a.length < 100 ∧ p.b.length < 100) (hP : ∀ b ∈ (x, accObj dx (rIts R).toArray n) :: (dx, dob) :: rLed R, b.1 ≠ 112) :
    CallOkG w mean mg mb (((112, tabObj ps) :: ex) ++ (x, accObj dx (rIts R).toArray n) :: (dx, dob) :: rLed R) 3 117 [.ref x]
      (fun r nw => ∃ ps' ex' t, Tab 129 19 qLen ps' ex' ∧ nw = ((112, tabObj ps') :: ex') ++ (x, accObj dx (rIts R).toArray n) :: (dx, dob) :: rLed R ∧ r = .int (rSum R) t) := by
  unfold CallOkG
  intro dp un gd cn cs a' ccd cl outer A₀ base h₀ L m s Q E B F X N T hk hdp hun hG hret
  refine wpAny_call ?_
  (refine' enter_K ?k1 ?k2 ?k3 ?k4 ?k5 ?kA ?kF ?kK ?k6 ?k7 ?k8 ?k9 ?kB ?_ ?c2 ?c3 ?c4 ?c5; (case kA => exact rfl); (case kF => exact rfl); (case kK => assumption); (case k1 => k_asm); (case k2 => k_asm); (case k3 => k_asm); (case k4 => k_asm); (case k5 => k_asm); (case k6 => k_is); (case k7 => k_is); (case k8 => first | exact room0 hdp | ktr_room); (case k9 => exact BindsTo.of_eq rfl); (case c5 => decide); (case kB => exact locs rfl); (case c2 => exact rfl); (case c3 => exact rfl); (case c4 => exact rfl); k_whole; intro g L' h' G FG F' N' B' X' T' l1; (try dsimp only); (try k_fold))
  k_steps
  with_reducible rename Fr _ _ _ _ => F2
  with_reducible rename News _ _ _ _ => N2
  have hsz : (rIts R).toArray.size = R.length := by simp
  refine gen_K (n := n) (dx := dx) (o := dob) (Ts := fun j => ((R.getD j part0)).at_) (va := fun j => .str (R.getD j part0).a (R.getD j part0).ta) (vb := fun j => .str (R.getD j part0).b (R.getD j part0).tb) (Fp := fun i y => ∃ t, y = .int (((R.getD i part0).a.length : Int) + ((R.getD i part0).b.length : Int)) t) F2 X' N2 T' (codeHd_len X') ht hP hG rfl (x := x) rfl (.head _) (.tail _ (.head _)) ?_ (by ktr_room) rfl (by with_unfolding_all rfl) (by decide) (by with_unfolding_all rfl) (by with_unfolding_all rfl) (by with_unfolding_all rfl) (by decide) (by with_unfolding_all rfl) (by with_unfolding_all rfl) (by with_unfolding_all rfl) (by decide) ?_ ?_
  · intro j hj
    have hj' : j < R.length := hsz ▸ hj
    have e1 : (R.getD j part0) ∈ R := by rw [partAt R j hj']; exact List.getElem_mem _
    refine ⟨?_, .tail _ (.tail _ (List.mem_map.mpr ⟨_, e1, rfl⟩))⟩
    rw [List.getElem?_toArray, List.getElem?_map, List.getElem?_eq_getElem hj', partAt R j hj']
    rfl
  · intro Cl code A' E' i u m2 hA hi Fu ha hb
    have e1 : (R.getD i part0) ∈ R := by rw [partAt R i (by rw [← hsz]; exact hi)]; exact List.getElem_mem _
    have hlen := hl _ e1
    exact elt_len Fu X' T' rfl rfl rfl rfl (by with_unfolding_all rfl) (by with_unfolding_all rfl) (by with_unfolding_all rfl) (by decide) (by decide) ha hb hlen (by with_unfolding_all rfl) (by with_unfolding_all rfl)
  · intro a ps' ex' h8 tk8 gs8 F8 N8 tab8 G8 X8
    clear F2 N2
    dsimp only
    refine hideG ?_; intro HP back; obtain ⟨hs0, k0, tv0, rfl⟩ := hdo; refine back ?_; clear back HP
    k_steps
    refine getattr_L (v := .int 0 tv0) (by k_in) (News.get (by k_asm) (by k_mem)) (News.get (by k_asm) (by k_mem)) (findObj_own (by k_is) (by k_is) (by k_is) (by show lookIn _ (dictOf _ _) = _; rw [lookIn_dict]; rfl)) rfl ?_
    dsimp only
    k_steps
    refine sumK F8 N8 G8 (GenK.tok X8 (Nat.le_succ _)) (fun j => ((R.getD j part0).a.length : Int) + ((R.getD j part0).b.length : Int)) (fun j v hv => hv.2) ?_
    intro h10 tk10 gs10 t10 F10 N10 G10
    rw [hsz]
    clear F8 N8 X8 G8
    dsimp only
    k_steps
    with_reducible rename Fr h₀ _ _ _ => Fe
    with_reducible rename News h₀ _ _ _ => Ne
    exact hret _ _ _ _ _ Fe Ne (G.back F10 N10) G10 ⟨_, _, _, tab8, rfl, rfl⟩
end Mine
end
-- E2
section
open PySem PySem.W PyProof.Rows PySem.Calls
set_option maxRecDepth 100000
set_option maxHeartbeats 4000000
namespace Mine
theorem off12 : True := by
  w_top off
  k_with_none
  exact trivial
theorem fillE2 : (Challenge.rw_re0104_02, hd.heap_1) = (Challenge.rw_re0104_02, hd.heap_1) := by
  k_fill
  rfl
theorem bits7 {x : Int} (h1 : -128 < x) (h2 : x < 128) : Builtin.Int.intBits x ≤ 7 := by
  rcases Int.lt_or_le x 0 with h | h
  · have e : Builtin.Int.intBits x = Builtin.Int.intBits (-x) := by unfold Builtin.Int.intBits; rw [Int.natAbs_neg, if_neg (by simp; omega), if_neg (by simp; omega)]
    rw [e]
    exact bits_of_lt (by omega) (by omega)
  · exact bits_of_lt h (by omega)
theorem idm_ok (w : World) (mean : ExcName → Option Value) (mg mb : Str → Option Value) (a b : Int) (ta tb : Tok) {t : Ledg} (ht : Tabs t) (hb : b ≠ 0) (b1 : -128 < b) (b2 : b < 128) (a1 : -120 < a) (a2 : a < 120) :
    CallOk w mean mg mb t 31 63 [.int a ta, .int b tb] (fun r nw => ∃ t' r' t1 t2, Tabs t' ∧ nw = (r', tup2 (.int (a.fdiv b) t1) (.int (a.fmod b) t2)) :: t' ∧ r = .ref r') := by
  have p := bits_pos hb
  have q := bits7 b1 b2
  rcases Int.lt_or_gt_of_ne hb with h | h
  · exact idm_n w mean mg mb a b ta tb ht h (by omega) (Nat.le_trans (bits7 (by omega) (by omega)) (by omega)) (Nat.le_trans (bits7 (by omega) (by omega)) (by omega))
  · rcases Int.lt_or_le a 0 with h' | h'
    · exact (idm_np w mean mg mb a b ta tb ht h (by omega) h' (Nat.le_trans (bits7 (by omega) (by omega)) (by omega))).mono (by decide) fun _ _ z => z
    · exact (idm_pp w mean mg mb a b ta tb ht h (by omega) h' (Nat.le_trans (bits7 (by omega) (by omega)) (by omega))).mono (by decide) fun _ _ z => z
/-- a rule: the six numbers -/
structure Rule where
  times : Int
  parts : Int
  more : Int
  turn : Int
  extra : Int
  since : Int
structure RuleT where
  a : Tok
  b : Tok
  c : Tok
  d : Tok
  e : Tok
  f : Tok
abbrev ruleObj (r : Rule) (t : RuleT) : Obj := { cls := .type "tuple", data := .seq #[.int r.times t.a, .int r.parts t.b, .int r.more t.c, .int r.turn t.d, .int r.extra t.e, .int r.since t.f] }
structure Rule.Ok (r : Rule) : Prop where
  t0 : 0 ≤ r.times
  t1 : r.times ≤ 6
  p0 : 1 ≤ r.parts
  p1 : r.parts ≤ 4
  m0 : -4 ≤ r.more
  m1 : r.more ≤ 4
  u : r.turn = 1 ∨ r.turn = -1
  e0 : 0 ≤ r.extra
  e1 : r.extra ≤ 5
  s0 : 1 ≤ r.since
  s1 : r.since ≤ 9
def Rule.lim (r : Rule) (k : Int) : Int := (r.times * k + r.more).fdiv r.parts + (if k ≥ r.since then r.extra else 0)
theorem text_ok (w : World) (mean : ExcName → Option Value) (mg mb : Str → Option Value) (ra : Addr) (r : Rule) (rt : RuleT) (k : Int) (tk : Tok) {t : Ledg} (ht : Tabs t) (ho : r.Ok) (k0 : 1 ≤ k) (k1 : k ≤ 15) :
    CallOk w mean mg mb ((ra, ruleObj r rt) :: t) 40 161 [.ref ra, .int k tk] (fun v nw => ∃ t', Tabs t' ∧ nw = (ra, ruleObj r rt) :: t' ∧ ∃ tv, v = .str (Txt.mul (Str.ofString "x") (r.lim k)) tv) := by
  unfold CallOk
  intro dp un gd cn cs a' ccd cl outer A₀ base h₀ L m s Q E B F X N T hk hdp hun hret
  refine wpAny_call ?_
  (refine' enter_K ?k1 ?k2 ?k3 ?k4 ?k5 ?kA ?kF ?kK ?k6 ?k7 ?k8 ?k9 ?kB ?_ ?c2 ?c3 ?c4 ?c5; (case kA => exact rfl); (case kF => exact rfl); (case kK => assumption); (case k1 => k_asm); (case k2 => k_asm); (case k3 => k_asm); (case k4 => k_asm); (case k5 => k_asm); (case k6 => k_is); (case k7 => k_is); (case k8 => first | exact room0 hdp | ktr_room); (case k9 => exact BindsTo.of_eq rfl); (case c5 => decide); (case kB => exact locs rfl); (case c2 => exact rfl); (case c3 => exact rfl); (case c4 => exact rfl); k_whole; intro g L' h' G FG F' N' B' X' T' l1; (try dsimp only); (try k_fold))
  refine hideG ?_; intro HP back; obtain ⟨t0, t1, p0, p1, m0, m1, u, e0, e1, s0, s1⟩ := ho; refine back ?_; clear back HP
  have b1 : r.times * k ≤ 90 := by
    have := Int.mul_le_mul t1 k1 (by omega) (by decide)
    omega
  have b0 : 0 ≤ r.times * k := Int.mul_nonneg t0 (by omega)
  have hq : (r.turn * (r.times * k + r.more)).fdiv (r.turn * r.parts) = (r.times * k + r.more).fdiv r.parts := by
    rcases u with u | u <;> rw [u]
    · rw [Int.one_mul, Int.one_mul]
    · rw [show (-1 : Int) * (r.times * k + r.more) = -(r.times * k + r.more) by omega, show (-1 : Int) * r.parts = -r.parts by omega, Int.neg_fdiv_neg]
  have hb : -5 < r.turn * r.parts ∧ r.turn * r.parts < 5 ∧ r.turn * r.parts ≠ 0 := by rcases u with u | u <;> rw [u] <;> omega
  have ha : -100 < r.turn * (r.times * k + r.more) ∧ r.turn * (r.times * k + r.more) < 100 := by rcases u with u | u <;> rw [u] <;> omega
  have hf : -4 ≤ (r.times * k + r.more).fdiv r.parts ∧ (r.times * k + r.more).fdiv r.parts ≤ 94 := by
    rw [Int.fdiv_eq_ediv_of_nonneg _ (by omega)]
    refine ⟨?_, ?_⟩
    · rw [Int.le_ediv_iff_mul_le (by omega)]; omega
    · have := Int.ediv_le_ediv (a := r.times * k + r.more) (b := 94) (c := r.parts) (by omega) (by omega)
      have h2 : (94 : Int) / r.parts ≤ 94 := Int.ediv_le_self _ (by decide)
      omega
  k_steps
  with_reducible rename Fr _ _ _ _ => F2
  with_reducible rename News _ _ _ _ => N2
  refine CallOk.use ((idm_ok w mean mg mb _ _ _ _ ht hb.2.2 (by omega) (by omega) (by omega) (by omega)).frame [(ra, ruleObj r rt)] (fun _ _ _ N => dis_tabs ht ⟨(fun vs e => by cases e), trivial⟩ N)) B' F2 X' (newsSub N2 ?_) T' rfl (by first | exact room1 hdp rfl | ktr_room) (by first | exact units1 hun rfl | ktr_units) ?_
  · intro p hp
    simp only [List.mem_cons, List.mem_append, List.not_mem_nil, or_false] at hp ⊢
    rcases hp with h | h <;> simp only [h, true_or, or_true]
  intro r1 nw1 h1' tk1 F1 N1 K1 hr1
  refine hideG ?_; intro HP back; obtain ⟨nw2, rfl, hap, t', r', t1, t2, ht', rfl, rfl⟩ := hr1; refine back ?_; clear back HP
  clear F2 N2
  rw [hq] at N1
  simp only [List.cons_append] at N1
  generalize hfl : (r.times * k + r.more).fdiv r.parts = fl at *
  dsimp only
  k_steps
  all_goals with_reducible rename Fr h₀ _ _ _ => Fe
  all_goals with_reducible rename News h₀ _ _ _ => Ne
  all_goals with_reducible rename News g _ _ _ => Ng
  all_goals with_reducible rename Fr g _ _ _ => Fg
  · have hs : k ≥ r.since := by assumption
    refine hret _ ((ra, ruleObj r rt) :: t') _ _ Fe (newsSub Ne ?_) (G.back Fg (newsSub Ng ?_)) ⟨t', ht', rfl, _, by unfold Rule.lim; rw [hfl, if_pos hs]⟩
    all_goals (intro p hp; simp only [List.mem_cons, List.mem_append, List.not_mem_nil, or_false] at hp ⊢; rcases hp with h | h <;> simp only [h, true_or, or_true])
  · have hs : ¬ k ≥ r.since := by omega
    refine hret _ ((ra, ruleObj r rt) :: t') _ _ Fe (newsSub Ne ?_) (G.back Fg (newsSub Ng ?_)) ⟨t', ht', rfl, _, by unfold Rule.lim; rw [hfl, if_neg hs]⟩
    all_goals (intro p hp; simp only [List.mem_cons, List.mem_append, List.not_mem_nil, or_false] at hp ⊢; rcases hp with h | h <;> simp only [h, true_or, or_true])
/-- the limit as a number, nought at least -/
def Rule.limN (r : Rule) (k : Nat) : Nat := (r.lim k).toNat
theorem limit_ok (w : World) (mean : ExcName → Option Value) (mg mb : Str → Option Value) (ra : Addr) (r : Rule) (rt : RuleT) (k : Int) (tk : Tok) (ho : r.Ok) (k0 : 0 ≤ k) (k1 : k ≤ 15) :
    CallOk w mean mg mb [(ra, ruleObj r rt)] 4 168 [.ref ra, .int k tk] (fun v nw => nw = [(ra, ruleObj r rt)] ∧ ∃ tv, v = .int (if r.lim k > 0 then r.lim k else 0) tv) := by
  unfold CallOk
  intro dp un gd cn cs a' ccd cl outer A₀ base h₀ L m s Q E B F X N T hk hdp hun hret
  refine wpAny_call ?_
  (refine' enter_K ?k1 ?k2 ?k3 ?k4 ?k5 ?kA ?kF ?kK ?k6 ?k7 ?k8 ?k9 ?kB ?_ ?c2 ?c3 ?c4 ?c5; (case kA => exact rfl); (case kF => exact rfl); (case kK => assumption); (case k1 => k_asm); (case k2 => k_asm); (case k3 => k_asm); (case k4 => k_asm); (case k5 => k_asm); (case k6 => k_is); (case k7 => k_is); (case k8 => first | exact room0 hdp | ktr_room); (case k9 => exact BindsTo.of_eq rfl); (case c5 => decide); (case kB => exact locs rfl); (case c2 => exact rfl); (case c3 => exact rfl); (case c4 => exact rfl); k_whole; intro g L' h' G FG F' N' B' X' T' l1; (try dsimp only); (try k_fold))
  refine hideG ?_; intro HP back; obtain ⟨t0, t1, p0, p1, m0, m1, u, e0, e1, s0, s1⟩ := ho; refine back ?_; clear back HP
  have b1 : r.times * k ≤ 90 := by
    have := Int.mul_le_mul t1 k1 (by omega) (by decide)
    omega
  have b0 : 0 ≤ r.times * k := Int.mul_nonneg t0 (by omega)
  have hb0 : r.parts ≠ 0 := by omega
  k_steps
  all_goals with_reducible rename Fr h₀ _ _ _ => Fe
  all_goals with_reducible rename News h₀ _ _ _ => Ne
  all_goals with_reducible rename News g _ _ _ => Ng
  all_goals with_reducible rename Fr g _ _ _ => Fg
  · have hs : k ≥ r.since := by assumption
    refine hret _ [(ra, ruleObj r rt)] _ _ Fe Ne (G.back Fg (newsSub Ng (by kcj_all))) ⟨rfl, _, by unfold Rule.lim; rw [if_pos hs]⟩
  · have hs : ¬ k ≥ r.since := by omega
    refine hret _ [(ra, ruleObj r rt)] _ _ Fe Ne (G.back Fg (newsSub Ng (by kcj_all))) ⟨rfl, _, by unfold Rule.lim; rw [if_neg hs, Int.add_zero]⟩
end Mine
end
-- E3
section
open PySem PySem.W PyProof.Rows PySem.Calls PySem.Spec
open PyProof.Rows.LCg PyProof.Rows.LCp
set_option maxRecDepth 100000
set_option maxHeartbeats 4000000
namespace Mine
theorem walksA {prog : Program} {w : World} {A : Around} (hh : A.handled = none) (I ax : Addr) (hne : ax ≠ I) (items : Array Value) :
    Walks prog w A I [I, ax] [I] items.size (fun i v => items[i]? = some v) (fun i h => h.IsListIter I ax i ∧ SeqAt h ax items) where
  sub := fun b hb => by simp at hb; simp [hb]
  frame := fun _ _ _ st hk => ⟨st.1.at fun o e => hk I (by simp) o e, st.2.to fun o e => hk ax (by simp) o e⟩
  item := fun i s Q E hi st hQ => by
    refine acc_next st.1 st.2 (x := items[i]) (by simp [hi]) fun h' hit' hs' => ?_
    exact hQ _ h' s.toks (by simp [hi]) ⟨hit', st.2.to fun o e => hs'.extBut _ _ hne e⟩ fun b o hb e => hs'.extBut b o (fun h => hb (by simp [h])) e
  done := fun s Q E st hQ => acc_end hh st.1 st.2 (by simp) fun h' he' => hQ h' s.toks fun b o hb e => he' b o (fun h => hb (by simp [h])) e
  self := fun _ _ _ _ st hQ => wpAny_pyIter_listiter st.1 hQ
section
variable {w : World} {A : Around} {E : Value → Shared → Prop} {s : Shared} {h₀ : Heap} {L : Addr} {m : Str → Option Value} {env : Env}
/-- the row at which a comprehension looks -/
def SrcA (w : World) (A : Around) (h₀ : Heap) (L : Addr) (m : Str → Option Value) (env : Env) (elt : Expr) (x x₂ : Str) (scope : Scope) (cl : List (Str × Addr)) (Q : Value → Shared → Prop) (xv : Value) (s₁ : Shared) : Prop :=
  ∃ ax dx its n od news, xv = .ref ax ∧ A.handled = none ∧ (hd.heap_1 w.params).In h₀ ∧ Fr h₀ L s₁.heap m ∧ News h₀ L s₁.heap news ∧ (ax, accObj dx its n) ∈ news ∧ (dx, od) ∈ news ∧ its.size ≤ sizeLine ∧
    ∀ g, CompRestP PRG w A h₀ L m env elt x x₂ scope cl { s₁ with heap := g } (fun nw => (ax, accObj dx its n) ∈ nw) (fun i v => its[i]? = some v) (FinE h₀ L m { s₁ with heap := g } Q) its.size 0 [] news
theorem compA {elt iter : Expr} {x x₂ : Str} {px px₂ tp : Pos} {tk} {scope : Scope} {cl : List (Str × Addr)} {pos : Pos} {Q : Value → Shared → Prop} (_F₀ : Fr h₀ L s.heap m)
    (hclos : closureFor scope env = pure cl) (hcell : ∀ y ∈ scope.names, y.2 ≠ .cell) (hkind : scope.kind = .function)
    (hnames : ∀ y ∈ scope.names, y.2 = .local → scope.names.lookup y.1 = some .local) (hx : scope.names.lookup x = some .local) (hx₂ : scope.names.lookup x₂ = some .local) (hxx : x ≠ x₂)
    (h : wpAny (model PRG w) A (eval iter env) (SrcA w A h₀ L m env elt x x₂ scope cl Q) E s)
    (hs : ∀ x, foldedSetIterable iter env x = pure x := by intro _; rfl) :
    wpAny (model PRG w) A (eval (.ListComp elt [⟨.Tuple [.Name x px, .Name x₂ px₂] tk tp, iter, [], 0⟩] scope pos) env) Q E s := by
  rw [eval_ListComp]
  refine wpAny_comprehension_free (use := none) rfl hs hclos hkind hnames (wpAny_mono h (fun xv s₁ h₁ => ?_) fun _ _ e => e)
  refine hideG ?_; intro HP back; obtain ⟨ax, dx, its, n, od, news, rfl, hh, X, F, N, ha, hd', hsz, R⟩ := h₁; refine back ?_; clear back HP
  have z := (N _ ha).1
  have hlt : ax < s₁.heap.objs.size := Heap.lt_size z
  refine acc_iter (X.keeps F.keep) z (N _ hd').1 ?_
  have up : ∀ b o, s₁.heap.get? b = some o → (s₁.heap.push { cls := .type "list_iterator", data := .fields #[.ref ax, .int 0 0] }).get? b = some o := fun b o e => Heap.get?_push_of_some _ e
  refine block_P (walksA hh s₁.heap.objs.size ax (Nat.ne_of_lt hlt) its) hsz (fun i h st => by obtain ⟨o, e, _⟩ := st.1; exact ⟨o, e⟩) (S := fun nw => (ax, accObj dx its n) ∈ nw) ?_ hcell hkind hx hx₂ hxx hh (fun i h st => ⟨_, _, st.1⟩) ⟨⟨_, Heap.get?_push_size _ rfl, rfl, rfl⟩, ⟨_, up _ _ z, _, rfl⟩⟩ (fun b hb => ?_)
    (F.keeps up) (N.grown up) (Nat.ne_of_lt F.ns.lt) (next_is_new F) (fun p hp => Nat.ne_of_lt (Heap.lt_size (N p hp).1)) ha (R _) ?_
  · intro i h h' o nw st e1 e2 _ N' hS
    refine ⟨st.1.at fun o' e' => ?_, ⟨_, (N' _ hS).1, _, rfl⟩⟩
    rw [e1] at e'
    cases e'
    exact e2
  · show b < (s₁.heap.push _).objs.size
    rw [Heap.size_push]
    rcases List.mem_cons.mp hb with rfl | hb
    · exact Nat.lt_succ_self _
    · rw [List.mem_singleton.mp hb]; exact Nat.lt_succ_of_lt hlt
  · intro D C h tk m' ys news' F' N' o1 hn hC₀ hD₀ hCL hDL hCD offC fin
    refine ⟨m', hn, fun h'' hs'' => fin D h'' tk (F'.change hs'' hCL hC₀) (fun p hp => ?_) o1⟩
    refine ⟨hs''.extBut _ _ ?_ (N' p hp).1, (N' p hp).2⟩
    rcases List.mem_cons.mp hp with rfl | hp
    · exact Ne.symm hCD
    · exact offC p hp
end
end Mine
end
-- PlnG
section
namespace Mine
/-- the last pieces melt into one as long as the limit behind the last reaches the one ahead (the last piece stands first) -/
def meld (f : Nat → Nat) : Nat → List Nat → List Nat
  | n + 1, l :: a :: r => if a ≤ f l then meld f n ((a + l) :: r) else l :: a :: r
  | 0, s => s
  | _ + 1, [] => []
  | _ + 1, [l] => [l]
def growN (f : Nat → Nat) (s : List Nat) : List Nat := meld f s.length (1 :: s)
/-- the row of a heap, the last piece first -/
def rowN (f : Nat → Nat) : Nat → List Nat
  | 0 => []
  | h + 1 => growN f (rowN f h)
/-- the last piece -/
def lastN (f : Nat → Nat) (h : Nat) : Nat := (rowN f h).headD 1
theorem meld_sum (f : Nat → Nat) : ∀ (n : Nat) (s : List Nat), (meld f n s).sum = s.sum
  | 0, s => rfl
  | n + 1, [] => rfl
  | n + 1, [l] => rfl
  | n + 1, l :: a :: r => by
    rw [meld]
    split
    · rw [meld_sum f n]; simp only [List.sum_cons]; omega
    · rfl
theorem meld_pos (f : Nat → Nat) : ∀ (n : Nat) (s : List Nat), (∀ x ∈ s, 1 ≤ x) → ∀ x ∈ meld f n s, 1 ≤ x
  | 0, s, h => h
  | n + 1, [], h => h
  | n + 1, [l], h => h
  | n + 1, l :: a :: r, h => by
    rw [meld]
    split
    · refine meld_pos f n _ fun x hx => ?_
      rcases List.mem_cons.mp hx with rfl | hx
      · have := h l (.head _); omega
      · exact h x (.tail _ (.tail _ hx))
    · exact h
theorem meld_ne (f : Nat → Nat) : ∀ (n : Nat) (s : List Nat), s ≠ [] → meld f n s ≠ []
  | 0, s, h => h
  | n + 1, [], h => h
  | n + 1, [l], h => h
  | n + 1, l :: a :: r, h => by
    rw [meld]
    split
    · exact meld_ne f n _ (by simp)
    · exact h
/-- a turn of the loop -/
theorem meld_turn {f : Nat → Nat} {n l a : Nat} {r : List Nat} (hn : (l :: a :: r).length ≤ n + 1) (h : a ≤ f l) : ∀ k, (a :: r).length ≤ k → meld f k (l :: a :: r) = meld f (k - 1) ((a + l) :: r) := fun k hk => by
  obtain ⟨k', rfl⟩ : ∃ k', k = k' + 1 := ⟨k - 1, by simp at hk; omega⟩
  rw [meld, if_pos h]
  rfl
theorem meld_stop {f : Nat → Nat} {l a : Nat} {r : List Nat} (h : ¬ a ≤ f l) : ∀ k, meld f k (l :: a :: r) = l :: a :: r
  | 0 => rfl
  | k + 1 => by rw [meld, if_neg h]
theorem meld_one {f : Nat → Nat} {l : Nat} : ∀ k, meld f k [l] = [l]
  | 0 => rfl
  | k + 1 => rfl
theorem rowN_sum (f : Nat → Nat) : ∀ h, (rowN f h).sum = h
  | 0 => rfl
  | h + 1 => by
    rw [rowN, growN, meld_sum, List.sum_cons, rowN_sum f h]; omega
theorem rowN_pos (f : Nat → Nat) : ∀ h, ∀ x ∈ rowN f h, 1 ≤ x
  | 0 => fun _ h => nomatch h
  | h + 1 => by
    rw [rowN, growN]
    refine meld_pos f _ _ fun x hx => ?_
    rcases List.mem_cons.mp hx with rfl | hx
    · exact Nat.le_refl _
    · exact rowN_pos f h x hx
theorem mem_le_sum : ∀ {l : List Nat} {x : Nat}, x ∈ l → x ≤ l.sum
  | a :: r, x, h => by
    rw [List.sum_cons]
    rcases List.mem_cons.mp h with rfl | h
    · omega
    · have := mem_le_sum h; omega
theorem len_le_sum : ∀ {l : List Nat}, (∀ x ∈ l, 1 ≤ x) → l.length ≤ l.sum
  | [], _ => Nat.le_refl _
  | a :: r, h => by
    have := len_le_sum (l := r) fun x hx => h x (.tail _ hx)
    have := h a (.head _)
    rw [List.length_cons, List.sum_cons]; omega
theorem growN_le {f : Nat → Nat} {s : List Nat} (h : ∀ x ∈ s, 1 ≤ x) : (growN f s).length ≤ s.sum + 1 := by
  have := len_le_sum (l := growN f s) (meld_pos f _ _ fun x hx => by
    rcases List.mem_cons.mp hx with rfl | hx
    · exact Nat.le_refl _
    · exact h x hx)
  rw [growN, meld_sum, List.sum_cons] at this
  exact Nat.le_trans this (by omega)
/-- what a row is -/
structure RowIs (f : Nat → Nat) (h : Nat) : Prop where
  eq : rowN f h = lastN f h :: rowN f (h - lastN f h)
  pos : 1 ≤ lastN f h
  le : lastN f h ≤ h
  lose : ∀ t, 1 ≤ t → t < lastN f h → lastN f (h - t) ≤ f t
  win : lastN f h = h ∨ f (lastN f h) < lastN f (h - lastN f h)
theorem meld_is {f : Nat → Nat} (mono : ∀ a b, a ≤ b → f a ≤ f b) (h : Nat) (ih : ∀ k, 1 ≤ k → k ≤ h → RowIs f k) : ∀ (n l h' : Nat), l + h' = h + 1 → 1 ≤ l → (rowN f h').length ≤ n → (∀ t, 1 ≤ t → t < l → lastN f (h + 1 - t) ≤ f t) →
    ∃ p, 1 ≤ p ∧ p ≤ h + 1 ∧ meld f n (l :: rowN f h') = p :: rowN f (h + 1 - p) ∧ (∀ t, 1 ≤ t → t < p → lastN f (h + 1 - t) ≤ f t) ∧ (p = h + 1 ∨ f p < lastN f (h + 1 - p))
  | n, l, 0, e, hl, _, low => ⟨l, hl, by omega, by rw [show h + 1 - l = 0 by omega]; exact meld_one n, low, .inl (by omega)⟩
  | n, l, h' + 1, e, hl, hn, low => by
    have I := ih (h' + 1) (by omega) (by omega)
    have q := I.eq
    have hp := I.pos
    have hle := I.le
    have lo := I.lose
    by_cases c : lastN f (h' + 1) ≤ f l
    · rw [q] at hn ⊢
      rw [meld_turn (n := (rowN f (h' + 1 - lastN f (h' + 1))).length + 1) (by simp) c n hn]
      refine meld_is mono h ih (n - 1) (lastN f (h' + 1) + l) (h' + 1 - lastN f (h' + 1)) (by omega) (by omega) (by simp at hn; omega) fun t t1 t2 => ?_
      rcases Nat.lt_or_ge t l with h1 | h1
      · exact low t t1 h1
      · rcases Nat.eq_or_lt_of_le h1 with h2 | h2
        · rw [← h2, show h + 1 - l = h' + 1 by omega]; exact c
        · have z := lo (t - l) (by omega) (by omega)
          rw [show h' + 1 - (t - l) = h + 1 - t by omega] at z
          exact Nat.le_trans z (mono _ _ (by omega))
    · refine ⟨l, hl, by omega, ?_, low, .inr ?_⟩
      · rw [q, meld_stop c, show h + 1 - l = h' + 1 by omega, ← q]
      · rw [show h + 1 - l = h' + 1 by omega]; omega
  termination_by n l h' => h'
  decreasing_by omega
theorem rowIs {f : Nat → Nat} (mono : ∀ a b, a ≤ b → f a ≤ f b) (h : Nat) (h1 : 1 ≤ h) : RowIs f h := by
  induction h using Nat.strongRecOn with
  | _ h ih =>
    obtain ⟨h, rfl⟩ : ∃ k, h = k + 1 := ⟨h - 1, by omega⟩
    obtain ⟨p, p1, p2, e, lo, wi⟩ := meld_is mono h (fun k k1 k2 => ih k (by omega) k1) (rowN f h).length 1 h (by omega) (Nat.le_refl _) (Nat.le_refl _) (fun t t1 t2 => by omega)
    have er : rowN f (h + 1) = p :: rowN f (h + 1 - p) := e
    have el : lastN f (h + 1) = p := by unfold lastN; rw [er]; rfl
    exact ⟨by rw [el]; exact er, by omega, by omega, by rw [el]; exact lo, by rw [el]; exact wi⟩
/-- one more take: who moves wins from the last piece on -/
theorem mine_step {f : Nat → Nat} (mono : ∀ a b, a ≤ b → f a ≤ f b) {h t : Nat} (t1 : 1 ≤ t) (t2 : t ≤ h) :
    decide (lastN f h ≤ t) = (decide (lastN f h ≤ t - 1) || !(decide (lastN f (h - t) ≤ min (h - t) (f t)))) := by
  have I := rowIs mono h (by omega)
  have lo := I.lose
  have hle := I.le
  have hwin := I.win
  rcases Nat.lt_trichotomy t (lastN f h) with c | c | c
  · have I2 := rowIs mono (h - t) (by omega)
    have z := lo t t1 c
    have z2 := I2.le
    rw [decide_eq_false (by omega), decide_eq_false (by omega), decide_eq_true (by omega)]; rfl
  · rw [decide_eq_true (by omega)]
    have : ¬ lastN f (h - t) ≤ min (h - t) (f t) := by
      rcases hwin with w | w
      · rw [show h - t = 0 by omega]
        have : lastN f 0 = 1 := rfl
        omega
      · rw [← c] at w; omega
    rw [decide_eq_false this]; simp
  · rw [decide_eq_true (by omega), decide_eq_true (by omega)]; rfl
/-- who wins at a heap, for each limit -/
def winsN (f : Nat → Nat) (h : Nat) : List Bool := (List.range (h + 1)).map fun i => decide (lastN f h ≤ i)
end Mine
end
-- E4a
section
open PySem PySem.W PyProof.Rows PySem.Calls PySem.Spec
set_option maxRecDepth 100000
set_option maxHeartbeats 4000000
namespace Mine
/-- a contract told in other words -/
theorem CallOk.conv {w : World} {mean : ExcName → Option Value} {mg mb : Str → Option Value} {news : Ledg} {D : Nat} {f : Addr} {args : List Value} {Post Post2 : Value → Ledg → Prop} (C : CallOk w mean mg mb news D f args Post) {news₂ : Ledg}
    (h1 : ∀ p, p ∈ news ↔ p ∈ news₂) (h2 : ∀ r nw, Post r nw → ∃ nw2, (∀ p ∈ nw2, p ∈ nw) ∧ Post2 r nw2) : CallOk w mean mg mb news₂ D f args Post2 := by
  intro dp un gd cn cs a' ccd cl outer A₀ base h₀ L m s Q E B F X N T hk hdp hun hret
  refine C.use B F X (fun p hp => N p ((h1 p).mp hp)) T hk hdp hun fun r news' h' tk' F' N' K' hp => ?_
  obtain ⟨nw2, hs, h3⟩ := h2 r news' hp
  have hm : ∀ b, b ∈ news.map (·.1) ↔ b ∈ news₂.map (·.1) := fun b => by
    simp only [List.mem_map]
    exact ⟨fun ⟨p, a, e⟩ => ⟨p, (h1 p).mp a, e⟩, fun ⟨p, a, e⟩ => ⟨p, (h1 p).mpr a, e⟩⟩
  exact hret r nw2 h' tk' F' (newsSub N' hs) ⟨fun b o e n => K'.keep b o e (fun q => n ((hm b).mp q)), fun p hp => (K'.new p (hs p hp)).imp id fun q => (hm _).mp q⟩ h3
/-- the ledger of a row with what stands beside it -/
abbrev rowL (x dx : Addr) (R : List Part) (n : Nat) (dob : Obj) (V : Ledg) : Ledg := (x, accObj dx (rIts R).toArray n) :: (dx, dob) :: (rLed R ++ V)
section
variable (w : World) (mean : ExcName → Option Value) (mg mb : Str → Option Value) (x dx : Addr) (R : List Part) (n : Nat) (dob : Obj) {V : Ledg}
theorem restOth {R : List Part} (hV : ∀ q ∈ V, Oth q.2) : ∀ q ∈ rLed R ++ V, Oth q.2 := fun q hq => by
  rcases List.mem_append.mp hq with h | h
  · exact rLed_oth q h
  · exact hV q h
theorem countG (hdo : OwnDict dob) (hV : ∀ q ∈ V, Oth q.2) : CallOk w mean mg mb (rowL x dx R n dob V) 3 147 [.ref x] (fun v nw => nw = rowL x dx R n dob V ∧ ∃ t, v = .int R.length t) :=
  ((count_ok w mean mg mb x dx (rIts R) n dob).frame (rLed R ++ V) (fun _ _ _ N => dis_acc hdo (restOth hV) N)).conv (fun p => by simp) (fun v nw h => by
    refine hideG ?_; intro HP back; obtain ⟨nw', rfl, _, t, rfl, rfl⟩ := h; refine back ?_; clear back HP
    exact ⟨_, fun p hp => by simpa using hp, rfl, t, by simp⟩)
theorem pushG (a b : Str) (ta tb : Tok) (hdx : dx ≠ x) (hdo : OwnDict dob) (hV : ∀ q ∈ V, Oth q.2) (hR : R.length ≤ 100) : CallOk w mean mg mb (rowL x dx R n dob V) 3 94 [.ref x, .str a ta, .str b tb]
    (fun v nw => v = .none ∧ ∃ p : Part, p.a = a ∧ p.b = b ∧ nw = rowL x dx (R ++ [p]) (n + 1) dob V) :=
  ((push_okP w mean mg mb x dx R n dob a b ta tb hdx (hdo.shadow (Str.ofString "append") (by decide)) (by rw [List.length_map, sizeLine_eq]; omega)).frame (rLed R ++ V) (fun _ _ _ N => dis_acc hdo (restOth hV) N)).conv (fun p => by simp) (fun v nw h => by
    refine hideG ?_; intro HP back; obtain ⟨nw', rfl, _, p, e, rfl, rfl⟩ := h; refine back ?_; clear back HP
    injection e with e1 e2
    refine ⟨rowL x dx (R ++ [p]) (n + 1) dob V, fun q hq => ?_, rfl, p, e1, e2, rfl⟩
    simp only [rowL, rLed, List.map_append, List.map_cons, List.map_nil, List.mem_cons, List.mem_append, List.not_mem_nil, or_false] at hq ⊢
    rcases hq with h | h | (h | h) | h <;> simp only [h, true_or, or_true])
theorem popG (q : Part) (hdx : dx ≠ x) (hdo : OwnDict dob) (hV : ∀ q ∈ V, Oth q.2) (hR : R.length ≤ 100) : CallOk w mean mg mb (rowL x dx (R ++ [q]) n dob V) 6 110 [.ref x]
    (fun v nw => v = .ref q.at_ ∧ nw = rowL x dx R (n + 1) dob ((q.at_, tup2 (.str q.a q.ta) (.str q.b q.tb)) :: V)) :=
  ((pop_ok w mean mg mb x dx (rIts R) (.ref q.at_) n dob hdx (hdo.shadow (Str.ofString "part_count") (by decide)) (by rw [List.length_map, sizeLine_eq]; omega)).frame (rLed (R ++ [q]) ++ V) (fun _ _ _ N => dis_acc hdo (restOth hV) N)).conv (fun p => by simp) (fun v nw h => by
    refine hideG ?_; intro HP back; obtain ⟨nw', rfl, _, rfl, rfl⟩ := h; refine back ?_; clear back HP
    refine ⟨_, fun p hp => ?_, rfl, rfl⟩
    simp only [rLed, List.map_append, List.map_cons, List.map_nil, List.mem_cons, List.mem_append, List.not_mem_nil, or_false] at hp ⊢
    rcases hp with h | h | h | h | h <;> simp only [h, true_or, or_true])
theorem textG (ra : Addr) (r : Rule) (rt : RuleT) (k : Int) (tk : Tok) {t U : Ledg} (ht : Tabs t) (ho : r.Ok) (k0 : 1 ≤ k) (k1 : k ≤ 15) (hU : NoF U) (hne : ∀ q ∈ U, q.2 ≠ ruleObj r rt) :
    CallOk w mean mg mb (U ++ (ra, ruleObj r rt) :: t) 40 161 [.ref ra, .int k tk] (fun v nw => ∃ t', Tabs t' ∧ nw = U ++ (ra, ruleObj r rt) :: t' ∧ ∃ tv, v = .str (Txt.mul (Str.ofString "x") (r.lim k)) tv) :=
  ((text_ok w mean mg mb ra r rt k tk ht ho k0 k1).frame U (fun _ _ _ N => dis_cons ht (fun q hq e => hne q hq (sameObj N (List.mem_append_right _ hq) (List.mem_append_left _ (.head _)) e)) hU N)).conv (fun p => by simp only [List.mem_append, List.mem_cons]; exact Or.comm) (fun v nw h => by
    refine hideG ?_; intro HP back; obtain ⟨nw', rfl, _, t', ht', rfl, hv⟩ := h; refine back ?_; clear back HP
    exact ⟨_, fun p hp => by simp only [List.mem_append, List.mem_cons] at hp ⊢; exact hp.symm, t', ht', rfl, hv⟩)
end
/-- so many counters -/
def xs (k : Nat) : Str := ⟨Array.replicate k 120⟩
theorem xs_cps (k : Nat) : (xs k).cps.toList = List.replicate k 120 := by simp [xs]
theorem xs_len (k : Nat) : (xs k).length = k := by rw [str_len, xs_cps, List.length_replicate]
theorem xs_app (a b : Nat) : xs a ++ xs b = xs (a + b) := str_ext (by rw [app_cps, xs_cps, xs_cps, xs_cps, List.replicate_append_replicate])
theorem foldl_app : ∀ (n : Nat) (acc : Array Nat), ((List.replicate n (#[120] : Array Nat)).foldl (· ++ ·) acc).toList = acc.toList ++ List.replicate n 120
  | 0, acc => by simp
  | n + 1, acc => by
    rw [List.replicate_succ, List.foldl_cons, foldl_app n]
    simp [List.replicate_succ]
theorem mul_xs (L : Int) : Txt.mul (Str.ofString "x") L = xs L.toNat := by
  have e : (Str.ofString "x").cps = #[120] := by decide +kernel
  have el : (Str.ofString "x").length = 1 := by decide +kernel
  unfold Txt.mul
  split
  · rw [show L.toNat = 0 by omega]; rfl
  · split
    · rename_i h
      rw [el] at h
      have : L = 1 := by simpa using h
      subst this
      exact str_ext (by rw [e, xs_cps]; rfl)
    · exact str_ext (by rw [xs_cps, e, foldl_app]; simp)
theorem starts_xs {L a : Nat} : Txt.startswith (xs L) (xs a) = decide (a ≤ L) := by
  rw [Bool.eq_iff_iff, decide_eq_true_eq]
  unfold Txt.startswith
  rw [StrLaws.subAt_eq, xs_len, xs_len, Bool.and_eq_true, beq_iff_eq, decide_eq_true_eq, Nat.zero_add, List.drop_zero, xs_cps, xs_cps, List.take_replicate]
  exact ⟨fun h => h.1, fun h => ⟨h, by rw [Nat.min_eq_left h]⟩⟩
theorem xs_nodot (k : Nat) : 46 ∉ (xs k).cps.toList := by
  rw [xs_cps]
  intro h
  have := (List.mem_replicate.mp h).2
  omega
theorem xs_one : Str.ofString "" ++ Str.ofString "x" = xs 1 := by decide +kernel
/-- the match of what stands ahead with the limit's text -/
theorem emG (w : World) (mean : ExcName → Option Value) (mg mb : Str → Option Value) (W : Ledg) (want got : Str) (tw tg : Tok) (a : Nat) (L : Int) (hw : want = xs a ++ dots) (hg : got = Txt.mul (Str.ofString "x") L) (ha : 1 ≤ a) (ha2 : a < 100) (hL : L < 100) :
    CallOk w mean mg mb W 2 70 [.str want tw, .str got tg] (fun r nw => nw = W ∧ r = .bool (decide (a ≤ L.toNat))) := by
  have e := (em_pre w mean mg mb want (xs a) got tw tg hw (xs_nodot a) (by rw [xs_len]; omega) (by rw [xs_len]; omega) (by rw [hg, mul_xs, xs_len]; omega)).frame W (fun _ _ _ _ _ _ hh => nomatch hh)
  refine e.conv (fun p => by simp) fun r nw h => ?_
  refine hideG ?_; intro HP back; obtain ⟨nw', rfl, _, rfl, rfl⟩ := h; refine back ?_; clear back HP
  exact ⟨W, fun p hp => by simpa using hp, rfl, by rw [hg, mul_xs, starts_xs]⟩
end Mine
end
-- Cn
section
open PySem PySem.W PyProof.Rows PySem.Calls
set_option maxRecDepth 100000
namespace Mine
theorem frMap {g h : Heap} {L : Addr} {m : Str → Option Value} (F : Fr g L h m) : ∃ m', m' = m ∧ Fr g L h m' := ⟨m, rfl, F⟩
theorem intsVs {vs : List Value} {ns : List Int} (h : IntsAre vs ns) : ∃ vs' ns', vs' = vs ∧ ns' = ns ∧ IntsAre vs' ns' := ⟨vs, ns, rfl, rfl, h⟩
theorem cn1 {m : Str → Option Value} {x1 : Str} {v1 : Value} (h1 : m x1 = some v1) : m = fun y => if y = x1 then some v1 else m y := by
  funext y
  repeat' split
  all_goals first | rfl | (rename_i h; rw [h]; assumption)
theorem cn2 {m : Str → Option Value} {x1 x2 : Str} {v1 v2 : Value} (h1 : m x1 = some v1) (h2 : m x2 = some v2) : m = fun y => if y = x1 then some v1 else if y = x2 then some v2 else m y := by
  funext y
  repeat' split
  all_goals first | rfl | (rename_i h; rw [h]; assumption)
theorem cn3 {m : Str → Option Value} {x1 x2 x3 : Str} {v1 v2 v3 : Value} (h1 : m x1 = some v1) (h2 : m x2 = some v2) (h3 : m x3 = some v3) : m = fun y => if y = x1 then some v1 else if y = x2 then some v2 else if y = x3 then some v3 else m y := by
  funext y
  repeat' split
  all_goals first | rfl | (rename_i h; rw [h]; assumption)
theorem cn4 {m : Str → Option Value} {x1 x2 x3 x4 : Str} {v1 v2 v3 v4 : Value} (h1 : m x1 = some v1) (h2 : m x2 = some v2) (h3 : m x3 = some v3) (h4 : m x4 = some v4) : m = fun y => if y = x1 then some v1 else if y = x2 then some v2 else if y = x3 then some v3 else if y = x4 then some v4 else m y := by
  funext y
  repeat' split
  all_goals first | rfl | (rename_i h; rw [h]; assumption)
theorem cn5 {m : Str → Option Value} {x1 x2 x3 x4 x5 : Str} {v1 v2 v3 v4 v5 : Value} (h1 : m x1 = some v1) (h2 : m x2 = some v2) (h3 : m x3 = some v3) (h4 : m x4 = some v4) (h5 : m x5 = some v5) : m = fun y => if y = x1 then some v1 else if y = x2 then some v2 else if y = x3 then some v3 else if y = x4 then some v4 else if y = x5 then some v5 else m y := by
  funext y
  repeat' split
  all_goals first | rfl | (rename_i h; rw [h]; assumption)
theorem cn6 {m : Str → Option Value} {x1 x2 x3 x4 x5 x6 : Str} {v1 v2 v3 v4 v5 v6 : Value} (h1 : m x1 = some v1) (h2 : m x2 = some v2) (h3 : m x3 = some v3) (h4 : m x4 = some v4) (h5 : m x5 = some v5) (h6 : m x6 = some v6) : m = fun y => if y = x1 then some v1 else if y = x2 then some v2 else if y = x3 then some v3 else if y = x4 then some v4 else if y = x5 then some v5 else if y = x6 then some v6 else m y := by
  funext y
  repeat' split
  all_goals first | rfl | (rename_i h; rw [h]; assumption)
theorem cn7 {m : Str → Option Value} {x1 x2 x3 x4 x5 x6 x7 : Str} {v1 v2 v3 v4 v5 v6 v7 : Value} (h1 : m x1 = some v1) (h2 : m x2 = some v2) (h3 : m x3 = some v3) (h4 : m x4 = some v4) (h5 : m x5 = some v5) (h6 : m x6 = some v6) (h7 : m x7 = some v7) : m = fun y => if y = x1 then some v1 else if y = x2 then some v2 else if y = x3 then some v3 else if y = x4 then some v4 else if y = x5 then some v5 else if y = x6 then some v6 else if y = x7 then some v7 else m y := by
  funext y
  repeat' split
  all_goals first | rfl | (rename_i h; rw [h]; assumption)
theorem cn8 {m : Str → Option Value} {x1 x2 x3 x4 x5 x6 x7 x8 : Str} {v1 v2 v3 v4 v5 v6 v7 v8 : Value} (h1 : m x1 = some v1) (h2 : m x2 = some v2) (h3 : m x3 = some v3) (h4 : m x4 = some v4) (h5 : m x5 = some v5) (h6 : m x6 = some v6) (h7 : m x7 = some v7) (h8 : m x8 = some v8) : m = fun y => if y = x1 then some v1 else if y = x2 then some v2 else if y = x3 then some v3 else if y = x4 then some v4 else if y = x5 then some v5 else if y = x6 then some v6 else if y = x7 then some v7 else if y = x8 then some v8 else m y := by
  funext y
  repeat' split
  all_goals first | rfl | (rename_i h; rw [h]; assumption)
theorem cn9 {m : Str → Option Value} {x1 x2 x3 x4 x5 x6 x7 x8 x9 : Str} {v1 v2 v3 v4 v5 v6 v7 v8 v9 : Value} (h1 : m x1 = some v1) (h2 : m x2 = some v2) (h3 : m x3 = some v3) (h4 : m x4 = some v4) (h5 : m x5 = some v5) (h6 : m x6 = some v6) (h7 : m x7 = some v7) (h8 : m x8 = some v8) (h9 : m x9 = some v9) : m = fun y => if y = x1 then some v1 else if y = x2 then some v2 else if y = x3 then some v3 else if y = x4 then some v4 else if y = x5 then some v5 else if y = x6 then some v6 else if y = x7 then some v7 else if y = x8 then some v8 else if y = x9 then some v9 else m y := by
  funext y
  repeat' split
  all_goals first | rfl | (rename_i h; rw [h]; assumption)
end Mine
end
-- E4
section
open PySem PySem.W PyProof.Rows PySem.Calls PySem.Spec
set_option maxRecDepth 100000
set_option maxHeartbeats 8000000
namespace Mine
theorem off13 : True := by
  w_top off
  k_with_none
  exact trivial
theorem fillE4 : (Challenge.rw_re0104_02, hd.heap_1) = (Challenge.rw_re0104_02, hd.heap_1) := by
  k_fill
  rfl
def AtX (h₀ : Heap) (L : Addr) (s : Shared) (X : (Str → Option Value) → Ledg → Prop) (s₃ : Shared) : Prop := ∃ h' tk m₂ news₂, s₃ = { s with heap := h', toks := tk } ∧ Fr h₀ L h' m₂ ∧ News h₀ L h' news₂ ∧ X m₂ news₂
def WhileStepB (h₀ : Heap) (L : Addr) (s : Shared) (J : Nat → (Str → Option Value) → Ledg → Prop) (X : (Str → Option Value) → Ledg → Prop) (n : Nat) (f : Flow) (s₃ : Shared) : Prop :=
  (f = .brk ∧ AtX h₀ L s X s₃) ∨ (f = .next ∧ ∃ n', n' < n ∧ AtX h₀ L s (J n') s₃)
section
variable {prog : Program} {w : World} {A : Around} {E : Value → Shared → Prop} {Q : Flow → Shared → Prop} {s : Shared} {env : Env} {h₀ : Heap} {L : Addr}
theorem While_invB {test : Expr} {body : List Stmt} {pos : Pos} {m : Str → Option Value} {news : Ledg} (J : Nat → (Str → Option Value) → Ledg → Prop) (X : (Str → Option Value) → Ledg → Prop) {n₀ : Nat}
    (F : Fr h₀ L s.heap m) (N : News h₀ L s.heap news) (hJ : J n₀ m news)
    (done : ∀ h' tk m₂ news₂, Fr h₀ L h' m₂ → News h₀ L h' news₂ → X m₂ news₂ → Q .next { s with heap := h', toks := tk })
    (turn : ∀ n m₁ news₁ h₁ tk₁, Fr h₀ L h₁ m₁ → News h₀ L h₁ news₁ → J n m₁ news₁ →
      wpAny (model prog w) A (isTrue test env (eval test env)) (fun b s₂ =>
        if b = true then wpAny (model prog w) A (execs body env) (WhileStepB h₀ L s J X n) E s₂ else AtX h₀ L s X s₂) E { s with heap := h₁, toks := tk₁ })
    (hE : PassesOwn (model prog w) A env E := by passes_own) :
    wpAny (model prog w) A (exec (.While test body [] pos) env) Q E s := by
  have fin : ∀ s₃, AtX h₀ L s X s₃ → Q .next s₃ := by
    intro s₃ hzz
    refine hideG ?_; intro HP back; obtain ⟨h', tk, m₂, news₂, rfl, F₂, N₂, X₂⟩ := hzz; refine back ?_; clear back HP
    exact done h' tk m₂ news₂ F₂ N₂ X₂
  refine wpAny_While (codeAny_whileLoop (fun n s' => AtX h₀ L s (J n) s') ?_ n₀ ⟨s.heap, s.toks, m, news, rfl, F, N, hJ⟩)
  intro n s' hzz
  refine hideG ?_; intro HP back; obtain ⟨h₁, tk₁, m₁, news₁, rfl, F₁, N₁, J₁⟩ := hzz; refine back ?_; clear back HP
  refine wpAny_mono (turn n m₁ news₁ h₁ tk₁ F₁ N₁ J₁) (fun b s₂ h₂ => ?_) hE
  cases b with
  | false =>
    simp only [Bool.false_eq_true, if_false] at h₂ ⊢
    exact wpAny_execs_nil (fin _ h₂)
  | true =>
    simp only [if_true] at h₂ ⊢
    refine wpAny_mono h₂ (fun f s₃ h₃ => ?_) hE
    rcases h₃ with ⟨rfl, h₃⟩ | ⟨rfl, n', hn, h₃⟩
    · exact fin _ h₃
    · exact ⟨n', hn, h₃⟩
end
theorem lineE41 : True := by
  k_with "getMethod ref" => (k_here; (with_reducible show wpAny _ _ (getMethod (Value.ref _) (PySem.Str.ofString "push") _) _ _ _); k_dflt (refine' method_fnL ?zx ?zi (k_ga _) (k_gat _) (k_mpush _) ?zt ?zs ?_; (case zx => k_in); (case zi => exact accInst (News.get (by k_asm) (by k_mem)) (News.get (by k_asm) (by k_mem))); (case zt => k_is); (case zs => first | rfl | assumption); k_whole))
  exact trivial
theorem lineE42 : True := by
  k_with "getMethod ref" => (k_here; (with_reducible show wpAny _ _ (getMethod (Value.ref _) (PySem.Str.ofString "pop") _) _ _ _); k_dflt (refine' method_fnL ?zx ?zi (k_ga _) (k_gat _) (k_mpop _) ?zt ?zs ?_; (case zx => k_in); (case zi => exact accInst (News.get (by k_asm) (by k_mem)) (News.get (by k_asm) (by k_mem))); (case zt => k_is); (case zs => first | rfl | assumption); k_whole))
  exact trivial
theorem lineE43 : True := by
  k_with "getMethod ref" => (k_here; (with_reducible show wpAny _ _ (getMethod (Value.ref _) (PySem.Str.ofString "part_count") _) _ _ _); k_dflt (refine' method_fnL ?zx ?zi (k_ga _) (k_gat _) (k_mcount _) ?zt ?zs ?_; (case zx => k_in); (case zi => exact accInst (News.get (by k_asm) (by k_mem)) (News.get (by k_asm) (by k_mem))); (case zt => k_is); (case zs => first | rfl | assumption); k_whole))
  exact trivial
/-- the parts' texts -/
def rX (R : List Part) : List Str := R.map fun p => p.a ++ p.b
theorem rX_len (R : List Part) : (rX R).length = R.length := by unfold rX; rw [List.length_map]
theorem rX_app (R R2 : List Part) : rX (R ++ R2) = rX R ++ rX R2 := by unfold rX; rw [List.map_append]
theorem oth_rule {ra : Addr} {r : Rule} {rt : RuleT} {t : Ledg} (ht : Tabs t) : ∀ q ∈ (ra, ruleObj r rt) :: t, Oth q.2 := fun q hq => by
  rcases List.mem_cons.mp hq with rfl | hq
  · exact .inr (.inl rfl)
  · exact .inl (ht.data q hq)
theorem grow_ok (w : World) (mean : ExcName → Option Value) (mg mb : Str → Option Value) (x dx ra : Addr) (R : List Part) (n : Nat) (dob : Obj) (r : Rule) (rt : RuleT) (S : List Nat) {t : Ledg} (hdx : dx ≠ x) (hdo : OwnDict dob) (ht : Tabs t) (ho : r.Ok) (hR : rX R = S.reverse.map xs) (hS : S.sum ≤ 14) (hp : ∀ k ∈ S, 1 ≤ k) (hl14 : S.length ≤ 14) :
    CallOk w mean mg mb (rowL x dx R n dob ((ra, ruleObj r rt) :: t)) 50 173 [.ref x, .ref ra]
      (fun v nw => ∃ t' R' n' D vs nn, Tabs t' ∧ rX R' = (growN r.limN S).reverse.map xs ∧ v = .ref D ∧ IntsAre vs ((growN r.limN S).reverse.map fun (k : Nat) => (k : Int)) ∧
        nw = (D, listOf vs.toArray nn) :: rowL x dx R' n' dob ((ra, ruleObj r rt) :: t')) := by
  unfold CallOk
  intro dp un gd cn cs a' ccd cl outer A₀ base h₀ L m s Q E B F X N T hk hdp hun hret
  refine wpAny_call ?_
  (refine' enter_K ?k1 ?k2 ?k3 ?k4 ?k5 ?kA ?kF ?kK ?k6 ?k7 ?k8 ?k9 ?kB ?_ ?c2 ?c3 ?c4 ?c5; (case kA => exact rfl); (case kF => exact rfl); (case kK => assumption); (case k1 => k_asm); (case k2 => k_asm); (case k3 => k_asm); (case k4 => k_asm); (case k5 => k_asm); (case k6 => k_is); (case k7 => k_is); (case k8 => first | exact room0 hdp | ktr_room); (case k9 => exact BindsTo.of_eq rfl); (case c5 => decide); (case kB => exact locs rfl); (case c2 => exact rfl); (case c3 => exact rfl); (case c4 => exact rfl); k_whole; intro g L' h' G FG F' N' B' X' T' l1; (try dsimp only); (try k_fold))
  have hsh := hdo.shadow (Str.ofString "push") (by decide)
  have hsh2 := hdo.shadow (Str.ofString "pop") (by decide)
  have hsh3 := hdo.shadow (Str.ofString "part_count") (by decide)
  have hRl : R.length = S.length := by have := congrArg List.length hR; rw [rX_len] at this; simpa using this
  repeat' (first | (k_unfold; (try dsimp only)) | ((fail_if_success (with_reducible show wpAny _ _ (call (Value.ref 94) _) _ _ _)); first | walk1 | (dsimp only; walk1)))
  with_reducible rename Fr _ _ _ _ => F2
  with_reducible rename News _ _ _ _ => N2
  refine CallOk.use (pushG w mean mg mb x dx R n dob (Str.ofString "") (Str.ofString "x") _ _ hdx hdo (oth_rule ht) (by omega)) B' F2 X' N2 T' rfl (by first | exact room1 hdp rfl | ktr_room) (by first | exact units1 hun rfl | ktr_units) ?_
  intro r1 nw1 h1 tk1 F3 N3 K1 hzz
  refine hideG ?_; intro HP back; obtain ⟨rfl, p1, hpa, hpb, rfl⟩ := hzz; refine back ?_; clear back HP
  clear F2 N2
  have hX1 : rX (R ++ [p1]) = (1 :: S).reverse.map xs := by
    rw [rX_app, hR, List.reverse_cons, List.map_append]
    show _ ++ [p1.a ++ p1.b] = _
    rw [hpa, hpb, xs_one]; rfl
  dsimp only
  repeat' (first | (k_unfold; (try dsimp only)) | ((fail_if_success (with_reducible show wpAny _ _ (exec (Stmt.While _ _ _ _) _) _ _ _)); first | walk1 | (dsimp only; walk1)))
  refine While_invB (n₀ := S.length + 1) (fun n m1 nw => ∃ S' R' k t', S'.length = n ∧ S' ≠ [] ∧ rX R' = S'.reverse.map xs ∧ meld r.limN (n - 1) S' = growN r.limN S ∧ S'.sum ≤ 15 ∧ (∀ j ∈ S', 1 ≤ j) ∧ n ≤ 15 ∧ Tabs t' ∧
    m1 (Str.ofString "row") = some (.ref x) ∧ m1 (Str.ofString "rule") = some (.ref ra) ∧ nw = rowL x dx R' k dob ((ra, ruleObj r rt) :: t'))
    (fun m1 nw => ∃ R' k t', rX R' = (growN r.limN S).reverse.map xs ∧ Tabs t' ∧ m1 (Str.ofString "row") = some (.ref x) ∧ nw = rowL x dx R' k dob ((ra, ruleObj r rt) :: t')) F3 N3 ?_ ?_ ?_
  · refine ⟨1 :: S, R ++ [p1], n + 1, t, rfl, by simp, hX1, rfl, by rw [List.sum_cons]; omega, ?_, by omega, ht, rfl, rfl, rfl⟩
    intro j hj
    rcases List.mem_cons.mp hj with rfl | hj
    · exact Nat.le_refl _
    · exact hp j hj
  · intro h21 tk21 m21 nw21 F21 N21 hx21
    refine hideG ?_; intro HP back; obtain ⟨R2, k2, t2, hX2, ht2, f21, rfl⟩ := hx21; refine back ?_; clear back HP
    rw [cn1 f21] at F21
    clear F3 N3
    have hR2e : R2.length = (growN r.limN S).length := by
      have e := congrArg List.length hX2
      rw [rX_len] at e
      rw [e]; simp
    have hR2l : R2.length ≤ 15 := by
      rw [hR2e]
      exact Nat.le_trans (growN_le hp) (by omega)
    dsimp only
    repeat' (first | (k_unfold; (try dsimp only)) | ((fail_if_success (with_reducible show wpAny _ _ (eval (Expr.ListComp _ _ _ _) _) _ _ _)); first | walk1 | (dsimp only; walk1)))
    with_reducible rename Fr _ _ _ _ => F22
    with_reducible rename News _ _ _ _ => N22
    refine compA F22 (by with_unfolding_all rfl) (by decide) (by rfl) (by decide) (by rfl) (by rfl) (by decide) ?_
    walk1
    refine ⟨x, dx, (rIts R2).toArray, k2, dob, _, rfl, rfl, X', F22, N22, .head _, .tail _ (.head _), by simp [sizeLine_eq]; omega, ?_⟩
    intro g9
    have hsz : (rIts R2).toArray.size = R2.length := by simp
    rw [hsz]
    refine compP_ind R2.length (fun i ys news => news = rowL x dx R2 k2 dob ((ra, ruleObj r rt) :: t2) ∧ IntsAre ys ((R2.take i).map fun p => ((p.a ++ p.b).length : Int))) ?_ ?_ R2.length 0 [] _ (by omega) ?_
    · rintro ys news ⟨rfl, hys⟩
      intro D9 h9 tk9 F9 N9 o9
      clear F22 N22
      dsimp only
      k_steps
      with_reducible rename Fr h₀ _ _ _ => Fe
      with_reducible rename News h₀ _ _ _ => Ne
      have hys2 : IntsAre ys ((growN r.limN S).reverse.map fun (c : Nat) => (c : Int)) := by
        rw [List.take_length] at hys
        have e : (R2.map fun p => ((p.a ++ p.b).length : Int)) = (growN r.limN S).reverse.map fun (c : Nat) => (c : Int) := by
          have e2 := congrArg (List.map fun (x : Str) => (x.length : Int)) hX2
          unfold rX at e2
          rw [List.map_map, List.map_map] at e2
          rw [show (R2.map fun p => ((p.a ++ p.b).length : Int)) = R2.map ((fun (x : Str) => (x.length : Int)) ∘ fun p => p.a ++ p.b) from rfl, e2]
          exact List.map_congr_left fun c _ => by show ((xs c).length : Int) = (c : Int); rw [xs_len]
        rw [← e]; exact hys
      refine hret _ ((D9, listOf ys.toArray ys.length) :: rowL x dx R2 k2 dob ((ra, ruleObj r rt) :: t2)) _ _ Fe Ne (G.back F9 N9) ⟨t2, R2, k2, D9, ys, ys.length, ht2, hX2, rfl, hys2, rfl⟩
    · rintro i ys news hi ⟨rfl, hys⟩ v hv
      have e1 : (rIts R2).toArray[i]? = some (.ref R2[i].at_) := by simp [hi]
      rw [e1] at hv
      cases hv
      refine ⟨_, tup2 (.str R2[i].a R2[i].ta) (.str R2[i].b R2[i].tb), .str R2[i].a R2[i].ta, .str R2[i].b R2[i].tb, _, rfl, .tail _ (.tail _ (List.mem_append_left _ (List.mem_map.mpr ⟨R2[i], List.getElem_mem _, rfl⟩))), rfl, rfl, ?_⟩
      intro I oI C oC D2 m2 h7 tk7 E7 hC hx hy F7 N7 off7 ne7
      clear F22 N22
      have hmem : R2[i].a ++ R2[i].b ∈ rX R2 := List.mem_map.mpr ⟨R2[i], List.getElem_mem _, rfl⟩
      rw [hX2] at hmem
      obtain ⟨c, hc1, hc2⟩ := List.mem_map.mp hmem
      have hcs : c ≤ 15 := by
        have z := mem_le_sum (List.mem_reverse.mp hc1)
        rw [growN, meld_sum, List.sum_cons] at z
        omega
      have hcl := congrArg PySem.Str.length hc2
      rw [xs_len, Str.length_append] at hcl
      have hca : R2[i].a.length < 100 := by omega
      have hcb : R2[i].b.length < 100 := by omega
      clear hc2 hmem hc1
      repeat' (first | (k_unfold; (try dsimp only)) | ((fail_if_success (with_reducible show LCg.CompEnd _ _ _ _ _ _ _ _ _ _ _ _ _ _)); first | walk1 | (dsimp only; walk1)))
      refine LCg.CompEnd.intro F7 N7 (rowL x dx R2 k2 dob ((ra, ruleObj r rt) :: t2)) (fun _ h => h) off7 (.head _) ⟨rfl, ?_⟩
      rw [List.take_add_one, List.map_append, List.getElem?_eq_getElem hi]
      refine ints_append hys ?_
      show IntsAre _ [((R2[i].a ++ R2[i].b).length : Int)]
      rw [Str.length_append, Int.natCast_add]
      exact .cons _ _ .nil
    · exact ⟨rfl, .nil⟩
  intro n1 m1 nw h4 tk4 F4 N4 hzz
  refine hideG ?_; intro HP back; obtain ⟨S', R', k, t', hn1, hne, hX, hmd, hs15, hpos, hn15, ht', f1, f2, rfl⟩ := hzz; refine back ?_; clear back HP
  rw [cn2 f1 f2] at F4
  clear F3 N3
  have hR'l : R'.length = n1 := by have := congrArg List.length hX; rw [rX_len] at this; rw [this]; simpa using hn1
  repeat' (first | (k_unfold; (try dsimp only)) | ((fail_if_success (with_reducible show wpAny _ _ (call (Value.ref 147) _) _ _ _)); first | walk1 | (dsimp only; walk1)))
  refine CallOk.use (countG w mean mg mb x dx R' k dob hdo (oth_rule ht')) B' F4 X' N4 T' rfl (by first | exact room1 hdp rfl | ktr_room) (by first | exact units1 hun rfl | ktr_units) ?_
  rintro r5 nw5 h5 tk5 F5 N5 K5 ⟨rfl, tc, rfl⟩
  clear F4 N4
  rw [hR'l]
  dsimp only
  repeat' ((fail_if_success (with_reducible show AtX _ _ _ _ _)); first | (k_unfold; (try dsimp only)) | ((fail_if_success (with_reducible show wpAny _ _ (execs (_ :: _) _) _ _ _)); first | walk1 | (dsimp only; walk1)))
  · have hn2 : 2 ≤ n1 := by
      have : (1 : Int) < (n1 : Int) := by assumption
      omega
    obtain ⟨l, a, r0, rfl⟩ : ∃ l a r0, S' = l :: a :: r0 := by
      match S', hn1 with
      | [], h => simp at h; omega
      | [_], h => simp at h; omega
      | l :: a :: r0, _ => exact ⟨l, a, r0, rfl⟩
    obtain ⟨R1, ql, rfl⟩ : ∃ R1 q, R' = R1 ++ [q] := ⟨R'.dropLast, R'.getLast (by intro e; rw [e] at hR'l; simp at hR'l; omega), (List.dropLast_concat_getLast _).symm⟩
    obtain ⟨R0, qa, rfl⟩ : ∃ R0 q, R1 = R0 ++ [q] := ⟨R1.dropLast, R1.getLast (by intro e; rw [e] at hR'l; simp at hR'l; omega), (List.dropLast_concat_getLast _).symm⟩
    rw [List.reverse_cons, List.reverse_cons, List.map_append, List.map_append, rX_app, rX_app] at hX
    obtain ⟨hX1', hX2⟩ := List.append_inj' hX rfl
    obtain ⟨hX0, hXa⟩ := List.append_inj' hX1' rfl
    have hql : ql.a ++ ql.b = xs l := by have : [ql.a ++ ql.b] = [xs l] := hX2; simpa using this
    have hqa : qa.a ++ qa.b = xs a := by have : [qa.a ++ qa.b] = [xs a] := hXa; simpa using this
    have hl1 := hpos l (.head _)
    have ha1 := hpos a (.tail _ (.head _))
    have hla : l + a ≤ 15 := by simp only [List.sum_cons] at hs15; omega
    have len_of : ∀ {u v : Str} {c : Nat}, u ++ v = xs c → u.length + v.length = c := fun {u v c} e => by
      have := congrArg PySem.Str.length e
      rw [Str.length_append, xs_len] at this
      exact this
    have zl := len_of hql
    have za := len_of hqa
    have zl1 : ql.a.length < 100 := by omega
    have zl2 : ql.b.length < 100 := by omega
    have za1 : qa.a.length < 100 := by omega
    have za2 : qa.b.length < 100 := by omega
    have hR0l : R0.length ≤ 15 := by simp only [List.length_append, List.length_singleton] at hR'l; omega
    repeat' (first | (k_unfold; (try dsimp only)) | ((fail_if_success (with_reducible show wpAny _ _ (call (Value.ref 110) _) _ _ _)); first | walk1 | (dsimp only; walk1)))
    with_reducible rename Fr _ _ _ _ => F6
    with_reducible rename News _ _ _ _ => N6
    refine CallOk.use (popG w mean mg mb x dx (R0 ++ [qa]) k dob ql hdx hdo (oth_rule ht') (by simp; omega)) B' F6 X' N6 T' rfl (by first | exact room1 hdp rfl | ktr_room) (by first | exact units1 hun rfl | ktr_units) ?_
    rintro r7 nw7 h7 tk7 F7 N7 K7 ⟨rfl, rfl⟩
    clear F6 N6
    dsimp only
    repeat' (first | (k_unfold; (try dsimp only)) | ((fail_if_success (with_reducible show wpAny _ _ (call (Value.ref 110) _) _ _ _)); first | walk1 | (dsimp only; walk1)))
    with_reducible rename Fr _ _ _ _ => F8
    with_reducible rename News _ _ _ _ => N8
    have hV1 : ∀ q ∈ (ql.at_, tup2 (.str ql.a ql.ta) (.str ql.b ql.tb)) :: (ra, ruleObj r rt) :: t', Oth q.2 := fun q hq => by
      rcases List.mem_cons.mp hq with rfl | hq
      · exact .inr (.inl rfl)
      · exact oth_rule ht' q hq
    refine CallOk.use (popG w mean mg mb x dx R0 (k + 1) dob qa hdx hdo hV1 (by omega)) B' F8 X' N8 T' rfl (by first | exact room1 hdp rfl | ktr_room) (by first | exact units1 hun rfl | ktr_units) ?_
    rintro r9 nw9 h9 tk9 F9 N9 K9 ⟨rfl, rfl⟩
    clear F8 N8
    have N10 : News g L' h9 (((qa.at_, tup2 (.str qa.a qa.ta) (.str qa.b qa.tb)) :: (ql.at_, tup2 (.str ql.a ql.ta) (.str ql.b ql.tb)) :: (x, accObj dx (rIts R0).toArray (k + 1 + 1)) :: (dx, dob) :: rLed R0) ++ (ra, ruleObj r rt) :: t') := newsSub N9 (fun p hp => by
      simp only [List.mem_cons, List.mem_append, List.cons_append] at hp ⊢
      rcases hp with h | h | h | h | h | h | h <;> simp only [h, true_or, or_true])
    clear N9
    dsimp only
    repeat' (first | (k_unfold; (try dsimp only)) | ((fail_if_success (with_reducible show wpAny _ _ (call (Value.ref 161) _) _ _ _)); first | walk1 | (dsimp only; walk1)))
    with_reducible rename Fr _ _ _ _ => F11
    with_reducible rename News _ _ _ _ => N11
    have hU : NoF ((qa.at_, tup2 (.str qa.a qa.ta) (.str qa.b qa.tb)) :: (ql.at_, tup2 (.str ql.a ql.ta) (.str ql.b ql.tb)) :: (x, accObj dx (rIts R0).toArray (k + 1 + 1)) :: (dx, dob) :: rLed R0) :=
      ⟨(fun vs e => by cases e), (fun vs e => by cases e), (fun vs e => by cases e), (fun vs e => dob_not_oth hdo (.inl ⟨vs, e⟩)), NoF.of fun q hq vs e => by obtain ⟨p, _, rfl⟩ := List.mem_map.mp hq; cases e⟩
    have hne2 : ∀ q ∈ (qa.at_, tup2 (.str qa.a qa.ta) (.str qa.b qa.tb)) :: (ql.at_, tup2 (.str ql.a ql.ta) (.str ql.b ql.tb)) :: (x, accObj dx (rIts R0).toArray (k + 1 + 1)) :: (dx, dob) :: rLed R0, q.2 ≠ ruleObj r rt := by
      have no2 : ∀ u v, tup2 u v ≠ ruleObj r rt := fun u v e => by injection e with _ _ e _; injection e with e _; have := congrArg Array.size e; simp at this
      intro q hq
      simp only [List.mem_cons] at hq
      rcases hq with rfl | rfl | rfl | rfl | hq
      · exact no2 _ _
      · exact no2 _ _
      · intro e; exact absurd (show Value.ref 150 = Value.type "tuple" from congrArg Obj.cls e) (by decide)
      · intro e; exact dob_not_oth hdo (show Oth dob by rw [show dob = ruleObj r rt from e]; exact .inr (.inl rfl))
      · obtain ⟨p, _, rfl⟩ := List.mem_map.mp hq; exact no2 _ _
    have hkl : ((ql.a ++ ql.b).length : Int) = (l : Int) := by rw [hql, xs_len]
    refine CallOk.use (textG w mean mg mb ra r rt ((ql.a ++ ql.b).length : Int) _ ht' ho (by omega) (by omega) hU hne2) B' F11 X' N11 T' rfl (by first | exact room1 hdp rfl | ktr_room) (by first | exact units1 hun rfl | ktr_units) ?_
    intro r12 nw12 h12 tk12 F12 N12 K12 hzz
    refine hideG ?_; intro HP back; obtain ⟨t2, ht2, rfl, tv, rfl⟩ := hzz; refine back ?_; clear back HP
    clear F11 N11
    rw [hkl]
    have hlim : r.lim (l : Int) < 100 := by
      refine hideG ?_; intro HP back; obtain ⟨q0, q1, q2, q3, q4, q5, q6, q7, q8, q9, q10⟩ := ho; refine back ?_; clear back HP
      have := Int.mul_le_mul q1 (show (l : Int) ≤ 15 by omega) (by omega) (by decide)
      have f1 : (r.times * (l : Int) + r.more).fdiv r.parts ≤ 94 := by
        rw [Int.fdiv_eq_ediv_of_nonneg _ (by omega)]
        have := Int.ediv_le_ediv (a := r.times * (l : Int) + r.more) (b := 94) (c := r.parts) (by omega) (by omega)
        have h2 : (94 : Int) / r.parts ≤ 94 := Int.ediv_le_self _ (by decide)
        omega
      unfold Rule.lim
      split <;> omega
    generalize hLL : r.lim (l : Int) = LL at *
    have hLN : r.limN l = LL.toNat := by unfold Rule.limN; rw [hLL]
    dsimp only
    repeat' (first | (k_unfold; (try dsimp only)) | ((fail_if_success (with_reducible show wpAny _ _ (call (Value.ref 70) _) _ _ _)); first | walk1 | (dsimp only; walk1)))
    with_reducible rename Fr _ _ _ _ => F13
    with_reducible rename News _ _ _ _ => N13
    refine CallOk.use (emG w mean mg mb _ (qa.a ++ qa.b ++ Str.ofString "...") (Txt.mul (Str.ofString "x") LL) _ _ a LL (by rw [hqa]) rfl ha1 (by omega) hlim) B' F13 X' N13 T' rfl (by first | exact room1 hdp rfl | ktr_room) (by first | exact units1 hun rfl | ktr_units) ?_
    rintro r14 nw14 h14 tk14 F14 N14 K14 ⟨rfl, rfl⟩
    clear F13 N13
    have N15 : News g L' h14 ((qa.at_, tup2 (.str qa.a qa.ta) (.str qa.b qa.tb)) :: (ql.at_, tup2 (.str ql.a ql.ta) (.str ql.b ql.tb)) :: rowL x dx R0 (k + 1 + 1) dob ((ra, ruleObj r rt) :: t2)) := newsSub N14 (fun p hp => by
      simp only [List.mem_cons, List.mem_append, List.cons_append] at hp ⊢
      rcases hp with h | h | h | h | h | h | h <;> simp only [h, true_or, or_true])
    clear N14
    have hV2 : ∀ q ∈ (qa.at_, tup2 (.str qa.a qa.ta) (.str qa.b qa.tb)) :: (ql.at_, tup2 (.str ql.a ql.ta) (.str ql.b ql.tb)) :: (ra, ruleObj r rt) :: t2, Oth q.2 := fun q hq => by
      rcases List.mem_cons.mp hq with rfl | hq
      · exact .inr (.inl rfl)
      rcases List.mem_cons.mp hq with rfl | hq
      · exact .inr (.inl rfl)
      · exact oth_rule ht2 q hq
    by_cases hc : a ≤ LL.toNat
    · rw [decide_eq_true hc]
      dsimp only
      repeat' (first | (k_unfold; (try dsimp only)) | ((fail_if_success (with_reducible show wpAny _ _ (call (Value.ref 94) _) _ _ _)); first | walk1 | (dsimp only; walk1)))
      with_reducible rename Fr _ _ _ _ => F16
      with_reducible rename News _ _ _ _ => N16
      refine CallOk.use (pushG w mean mg mb x dx R0 (k + 1 + 1) dob (qa.a ++ qa.b) (ql.a ++ ql.b) _ _ hdx hdo (oth_rule ht2) (by omega)) B' F16 X' (newsSub N16 (fun p hp => .tail _ (.tail _ hp))) T' rfl (by first | exact room1 hdp rfl | ktr_room) (by first | exact units1 hun rfl | ktr_units) ?_
      intro r17 nw17 h17 tk17 F17 N17 K17 hzz
      refine hideG ?_; intro HP back; obtain ⟨rfl, p2, hpa2, hpb2, rfl⟩ := hzz; refine back ?_; clear back HP
      clear F16 N16
      dsimp only
      repeat' ((fail_if_success (with_reducible show WhileStepB _ _ _ _ _ _ _ _)); first | (k_unfold; (try dsimp only)) | (first | walk1 | (dsimp only; walk1)))
      have hX2' : rX (R0 ++ [p2]) = ((a + l) :: r0).reverse.map xs := by
        rw [rX_app, hX0, List.reverse_cons, List.map_append]
        show _ ++ [p2.a ++ p2.b] = _
        rw [hpa2, hpb2, hqa, hql, xs_app]; rfl
      have hn1' : n1 = r0.length + 1 + 1 := by rw [← hn1]; rfl
      refine .inr ⟨rfl, n1 - 1, by omega, h17, _, _, _, rfl, F17, N17, (a + l) :: r0, R0 ++ [p2], _, t2, by rw [hn1']; rfl, by simp, hX2', ?_, by simp only [List.sum_cons] at hs15 ⊢; omega, ?_, by omega, ht2, rfl, rfl, rfl⟩
      · rw [← hmd, hn1']
        show meld r.limN r0.length ((a + l) :: r0) = meld r.limN (r0.length + 1) (l :: a :: r0)
        rw [meld, if_pos (by rw [hLN]; exact hc)]
      · intro j hj
        rcases List.mem_cons.mp hj with rfl | hj
        · omega
        · exact hpos j (.tail _ (.tail _ hj))
    · rw [decide_eq_false hc]
      dsimp only
      repeat' (first | (k_unfold; (try dsimp only)) | ((fail_if_success (with_reducible show wpAny _ _ (call (Value.ref 94) _) _ _ _)); first | walk1 | (dsimp only; walk1)))
      with_reducible rename Fr _ _ _ _ => F16
      with_reducible rename News _ _ _ _ => N16
      refine CallOk.use (pushG w mean mg mb x dx R0 (k + 1 + 1) dob qa.a qa.b _ _ hdx hdo hV2 (by omega)) B' F16 X' (newsSub N16 (fun p hp => by
        simp only [List.mem_cons, List.mem_append] at hp ⊢
        rcases hp with h | h | h | h | h | h | h <;> simp only [h, true_or, or_true])) T' rfl (by first | exact room1 hdp rfl | ktr_room) (by first | exact units1 hun rfl | ktr_units) ?_
      intro r17 nw17 h17 tk17 F17 N17 K17 hzz
      refine hideG ?_; intro HP back; obtain ⟨rfl, p2, hpa2, hpb2, rfl⟩ := hzz; refine back ?_; clear back HP
      clear F16 N16
      have N18 : News g L' h17 ((ql.at_, tup2 (.str ql.a ql.ta) (.str ql.b ql.tb)) :: rowL x dx (R0 ++ [p2]) (k + 1 + 1 + 1) dob ((ra, ruleObj r rt) :: t2)) := newsSub N17 (fun p hp => by
        simp only [List.mem_cons, List.mem_append] at hp ⊢
        rcases hp with h | h | h | h | h | h <;> simp only [h, true_or, or_true])
      clear N17
      dsimp only
      repeat' (first | (k_unfold; (try dsimp only)) | ((fail_if_success (with_reducible show wpAny _ _ (call (Value.ref 94) _) _ _ _)); first | walk1 | (dsimp only; walk1)))
      with_reducible rename Fr _ _ _ _ => F19
      with_reducible rename News _ _ _ _ => N19
      refine CallOk.use (pushG w mean mg mb x dx (R0 ++ [p2]) (k + 1 + 1 + 1) dob ql.a ql.b _ _ hdx hdo (oth_rule ht2) (by simp; omega)) B' F19 X' (newsSub N19 (fun p hp => .tail _ hp)) T' rfl (by first | exact room1 hdp rfl | ktr_room) (by first | exact units1 hun rfl | ktr_units) ?_
      intro r20 nw20 h20 tk20 F20 N20 K20 hzz
      refine hideG ?_; intro HP back; obtain ⟨rfl, p3, hpa3, hpb3, rfl⟩ := hzz; refine back ?_; clear back HP
      clear F19 N19
      dsimp only
      repeat' ((fail_if_success (with_reducible show WhileStepB _ _ _ _ _ _ _ _)); first | (k_unfold; (try dsimp only)) | (first | walk1 | (dsimp only; walk1)))
      have hX3 : rX (R0 ++ [p2] ++ [p3]) = (l :: a :: r0).reverse.map xs := by
        rw [rX_app, rX_app, hX0, List.reverse_cons, List.reverse_cons, List.map_append, List.map_append]
        show _ ++ [p2.a ++ p2.b] ++ [p3.a ++ p3.b] = _
        rw [hpa2, hpb2, hpa3, hpb3, hqa, hql]; rfl
      refine .inl ⟨rfl, h20, _, _, _, rfl, F20, N20, R0 ++ [p2] ++ [p3], _, t2, ?_, ht2, rfl, rfl⟩
      rw [hX3, ← hmd, meld_stop (by rw [hLN]; exact hc)]
  · have hn2 : n1 = 1 := by
      have : ¬ (1 : Int) < (n1 : Int) := by assumption
      have : n1 ≠ 0 := by intro e; rw [e] at hn1; exact hne (List.length_eq_zero_iff.mp hn1)
      omega
    obtain ⟨l, rfl⟩ : ∃ l, S' = [l] := by
      match S', hn1 with
      | [l], _ => exact ⟨l, rfl⟩
      | [], h => simp at h; omega
      | _ :: _ :: _, h => simp at h; omega
    with_reducible rename Fr _ _ _ _ => F6
    with_reducible rename News _ _ _ _ => N6
    refine ⟨_, _, _, _, rfl, F6, N6, R', k, t', ?_, ht', rfl, rfl⟩
    rw [hX, ← hmd, meld_one]
end Mine
end
-- BLoopI
section
open PySem PySem.W PyProof.Rows PySem.Calls
set_option maxRecDepth 100000
namespace Mine
section
variable {prog : Program} {w : World} {A : Around} {E : Value → Shared → Prop} {s : Shared} {env : Env} {h₀ : Heap} {x : Str} {body : List Stmt} {Q : Flow → Shared → Prop} {I : Addr} {lp : Addr × Obj}
theorem UnrPost.mono {L : Addr} {s₁ s₂ : Shared} {it : Obj} {r1 r2 : (Str → Option Value) → Ledg → Prop} {f : Flow} (h : UnrPost h₀ L s₁ I it r1 Q f s₂) (k : ∀ m n, r1 m n → r2 m n) : UnrPost h₀ L s₁ I it r2 Q f s₂ := by
  have go : UnrEnd h₀ L s₁ I it r1 s₂ → UnrEnd h₀ L s₁ I it r2 s₂ := by
    rintro ⟨h', tk', m', n', e, F', N', off, a⟩
    exact ⟨h', tk', m', n', e, F', N', off, k _ _ a⟩
  cases f with
  | ret v => exact h
  | brk => exact h
  | next => exact go h
  | cont => exact go h
theorem range_ind {a : Int} (n : Nat) (J : Nat → (Str → Option Value) → Ledg → Prop)
    (base : ∀ m news, J n m news → ∀ h tk, Fr h₀ env.locals h m → News h₀ env.locals h news → Q .next { s with heap := h, toks := tk })
    (step : ∀ i m news, i < n → J i m news → ∀ t h tk, Fr h₀ env.locals h (fun y => if y = x then some (.int (a + (i : Int)) t) else m y) → News h₀ env.locals h ((I, itR (a + ((i + 1 : Nat) : Int)) ((n : Int) - ((i + 1 : Nat) : Int))) :: news) →
      wpAny (model prog w) A (execs body env) (UnrPost h₀ env.locals { s with heap := h, toks := tk } I (itR (a + ((i + 1 : Nat) : Int)) ((n : Int) - ((i + 1 : Nat) : Int))) (J (i + 1)) Q) E { s with heap := h, toks := tk }) :
    ∀ k i m news, i + k = n → J i m news → RangeRest prog w A E h₀ env x body Q s I a n k i m news
  | 0, i, m, news, e, h => base m news (by rw [Nat.add_zero] at e; exact e ▸ h)
  | k + 1, i, m, news, e, h => fun t h' tk F N => wpAny_mono (step i m news (by omega) h t h' tk F N) (fun f s₂ p => UnrPost.mono p fun m' n' r => range_ind n J base step k (i + 1) m' n' (by omega) r) fun _ _ e => e
theorem list_ind (P : List Value → (Str → Option Value) → Ledg → Prop)
    (base : ∀ m news, P [] m news → ∀ h tk, Fr h₀ env.locals h m → News h₀ env.locals h news → Q .next { s with heap := h, toks := tk })
    (step : ∀ v r m news, P (v :: r) m news → ∀ (it : Obj) h tk, it.cls = .type "list_iterator" → Fr h₀ env.locals h (fun y => if y = x then some v else m y) → News h₀ env.locals h ((I, it) :: news) →
      wpAny (model prog w) A (execs body env) (UnrPost h₀ env.locals { s with heap := h, toks := tk } I it (fun m' n' => lp ∈ n' ∧ P r m' n') Q) E { s with heap := h, toks := tk }) :
    ∀ r m news, P r m news → ListRest prog w A E h₀ env x body Q s I lp r m news
  | [], m, news, h => base m news h
  | v :: r, m, news, h => fun it h1 tk hit F N => wpAny_mono (step v r m news h it h1 tk hit F N) (fun f s₂ p => UnrPost.mono p fun m' n' q => ⟨q.1, list_ind P base step r m' n' q.2⟩) fun _ _ e => e
end
end Mine
end
-- ForG
section
open PySem PySem.W PyProof.Rows PySem.Calls PySem.Spec
set_option maxRecDepth 100000
namespace Mine
def ForStepG (h₀ : Heap) (L : Addr) (s : Shared) (I : Addr) (it : Obj) (J : (Str → Option Value) → Ledg → Prop) (f : Flow) (s₃ : Shared) : Prop :=
  f = .next ∧ ∃ h' tk gs m₂ news₂, s₃ = { s with heap := h', toks := tk, gens := gs } ∧ Fr h₀ L h' m₂ ∧ News h₀ L h' ((I, it) :: news₂) ∧ AllBare gs ∧ (∀ p ∈ news₂, p.1 ≠ I) ∧ J m₂ news₂
section
variable {prog : Program} {w : World} {A : Around} {E : Value → Shared → Prop} {Q : Flow → Shared → Prop} {s : Shared} {env : Env} {h₀ : Heap}
theorem forRangeG {x : Str} {px : Pos} {body : List Stmt} {R : Result → Shared → Prop} {I : Addr} {a : Int} {n : Nat} {m : Str → Option Value} {news : Ledg} (hh : A.handled = none) (hx : env.kindOf x = some .local)
    (hp : (env.scope.kind == .class || (env.scope.kind == .module && env.locals != env.globals)) = false)
    (hst : IsRangeIter s.heap I (a + (0 : Nat) * 1) ((n : Int) - (0 : Nat)) 1) (hI0 : h₀.get? I = none) (hIL : env.locals ≠ I) (hnw : ∀ p ∈ news, p.1 ≠ I) (F : Fr h₀ env.locals s.heap m) (N : News h₀ env.locals s.heap news) (G : AllBare s.gens)
    (J : Nat → (Str → Option Value) → Ledg → Prop) (h0 : J 0 m news)
    (step : ∀ i m₁ news₁ t h tk gs, i < n → J i m₁ news₁ → (∀ p ∈ news₁, p.1 ≠ I) → Fr h₀ env.locals h (fun y => if y = x then some (.int (a + (i : Int)) t) else m₁ y) →
      News h₀ env.locals h ((I, itR (a + ((i + 1 : Nat) : Int)) ((n : Int) - ((i + 1 : Nat) : Int))) :: news₁) → AllBare gs →
      wpAny (model prog w) A (execs body env) (ForStepG h₀ env.locals s I (itR (a + ((i + 1 : Nat) : Int)) ((n : Int) - ((i + 1 : Nat) : Int))) (J (i + 1))) (notedBy (model prog w) A env fun e s' => R (.error e) s') { s with heap := h, toks := tk, gens := gs })
    (hR : ∀ h tk gs m' news', Fr h₀ env.locals h m' → News h₀ env.locals h news' → AllBare gs → J n m' news' → R (.ok .next) { s with heap := h, toks := tk, gens := gs }) :
    codeAny (model prog w) A (.forLoop (.Name x px) (.ref I) body [] env) R s := by
  have W : Walks prog w A I [I] [I] n (fun i v => i < n ∧ ∃ t, v = .int (a + i * 1) t) (fun i h => IsRangeIter h I (a + (i : Nat) * 1) ((n : Int) - (i : Nat)) 1) := (Walks.range hh _ a 1 n).bound
  have old : ∀ b o, h₀.get? b = some o → b ≠ I := fun b o e hb => by rw [hb, hI0] at e; cases e
  refine codeAny_forLoop
    (fun k s' => ∃ h' tk gs m' news' i, s' = { s with heap := h', toks := tk, gens := gs } ∧ IsRangeIter h' I (a + (i : Nat) * 1) ((n : Int) - (i : Nat)) 1 ∧ Fr h₀ env.locals h' m' ∧ News h₀ env.locals h' news' ∧ AllBare gs ∧ (∀ p ∈ news', p.1 ≠ I) ∧ J i m' news' ∧ i ≤ n ∧ k = n + 1 - i) ?_ (n + 1)
    ⟨s.heap, s.toks, s.gens, m, news, 0, rfl, hst, F, N, G, hnw, h0, Nat.zero_le _, rfl⟩
  rintro k s' ⟨h', tk, gs, m', news', i, rfl, hst', F', N', G', hnw', hJ, hi, rfl⟩
  have next : ∀ h₁ : Heap, (∀ b o, b ∉ [I] → h'.get? b = some o → h₁.get? b = some o) → Fr h₀ env.locals h₁ m' ∧ News h₀ env.locals h₁ news' := fun h₁ hk₁ =>
    ⟨⟨F'.ns.at' fun o e => hk₁ _ o (by simpa using hIL) e, fun b o e => hk₁ b o (by simpa using old b o e) (F'.keep b o e), F'.above⟩, fun p hp => ⟨hk₁ _ _ (by simpa using hnw' p hp) (N' p hp).1, (N' p hp).2⟩⟩
  by_cases hlt : i < n
  · refine W.item i _ _ _ hlt hst' fun v h₁ tk₁ hP hst₁ hk₁ => ?_
    obtain ⟨_, t, rfl⟩ := hP
    obtain ⟨F₁, N₁⟩ := next h₁ hk₁
    refine wpAny_assign_Name (wpAny_storeName_local hx F₁.ns (fun h₂ hn₂ hs₂ => ?_) hp)
    have F₂ := F₁.set hn₂ hs₂
    have hst₂ : IsRangeIter h₂ I (a + ((i + 1 : Nat)) * 1) ((n : Int) - ((i + 1 : Nat))) 1 := W.frame _ _ _ hst₁ fun b hb o e => (hs₂.2 b fun q => hIL (by rw [← q]; simpa using hb)).trans e
    have hget : h₂.get? I = some (itR (a + ((i + 1 : Nat) : Int)) ((n : Int) - ((i + 1 : Nat) : Int))) := by
      have q : IsRangeIter h₂ I (a + ((i + 1 : Nat) : Int) * 1) ((n : Int) - ((i + 1 : Nat) : Int)) 1 := hst₂
      rw [Int.mul_one] at q
      exact q
    have N₂ : News h₀ env.locals h₂ ((I, itR (a + ((i + 1 : Nat) : Int)) ((n : Int) - ((i + 1 : Nat) : Int))) :: news') := fun p hp => by
      rcases List.mem_cons.mp hp with rfl | hp
      · exact ⟨hget, Ne.symm hIL, hI0⟩
      · exact (N₁.set hs₂) p hp
    rw [show a + (i : Int) * 1 = a + (i : Int) by rw [Int.mul_one]] at F₂
    refine wpAny_mono (step i m' news' t h₂ _ gs hlt hJ hnw' F₂ N₂ G') (fun f s₃ h₃ => ?_) fun _ _ e => e
    obtain ⟨rfl, h₃', tk₃, gs₃, m₂, news₂, rfl, F₃, N₃, G₃, ha₃, hJ₃⟩ := h₃
    refine ⟨n + 1 - (i + 1), by omega, h₃', tk₃, gs₃, m₂, news₂, i + 1, rfl, ?_, F₃, fun p hp => N₃ p (.tail _ hp), G₃, ha₃, hJ₃, hlt, rfl⟩
    show IsRangeIter h₃' I (a + ((i + 1 : Nat) : Int) * 1) ((n : Int) - ((i + 1 : Nat) : Int)) 1
    rw [Int.mul_one]
    exact (N₃ _ (.head _)).1
  · have hin : i = n := by omega
    subst hin
    refine W.done _ _ _ hst' fun h₁ tk₁ hk₁ => wpAny_execs_nil ?_
    obtain ⟨F₁, N₁⟩ := next h₁ hk₁
    exact hR h₁ tk₁ gs m' news' F₁ N₁ G' hJ
/-- a for over a range, whose turns may make generators -/
def LoopAtG (prog : Program) (w : World) (A : Around) (h₀ : Heap) (env : Env) (x : Str) (px : Pos) (body : List Stmt) (Q : Flow → Shared → Prop) (E : Value → Shared → Prop) (it : Value) (s₂ : Shared) : Prop :=
  codeAny (model prog w) A (.forLoop (.Name x px) it body [] env) (fun r s' => match r with | .ok f => Q f s' | .error e => cameBackBy (model prog w) A env E e s') s₂
theorem For_G {x : Str} {px pos : Pos} {iter : Expr} {body : List Stmt}
    (h : wpAny (model prog w) A (eval iter env) (fun xv s₁ => wpAny (model prog w) A (pyIter xv) (fun it s₂ => LoopAtG prog w A h₀ env x px body Q E it s₂) E s₁) E s)
    (hs : ∀ x, foldedSetIterable iter env x = pure x := by intro _; rfl) :
    wpAny (model prog w) A (exec (.For (.Name x px) iter body [] pos) env) Q E s :=
  wpAny_For (wpAny_mono h (fun xv s₁ h₁ => wpAny_mono h₁ (fun it s₂ h₂ => h₂) fun _ _ e => e) fun _ _ e => e) hs
theorem iter_G {x : Str} {px : Pos} {body : List Stmt} {r : Addr} {a b : Int} {t₀ u₀ v₀ : Tok} {n : Nat} {m : Str → Option Value} {news : Ledg} (hh : A.handled = none) (hx : env.kindOf x = some .local)
    (hp : (env.scope.kind == .class || (env.scope.kind == .module && env.locals != env.globals)) = false) (hr : IsRange s.heap r a b 1 t₀ u₀ v₀) (hsmall : Builtin.Range.small a b 1 = true) (hn : Builtin.Range.rangeSize a b 1 = (n : Int))
    (F : Fr h₀ env.locals s.heap m) (N : News h₀ env.locals s.heap news) (G : AllBare s.gens)
    (J : Nat → (Str → Option Value) → Ledg → Prop) (h0 : J 0 m news)
    (done : ∀ h tk gs m' news', Fr h₀ env.locals h m' → News h₀ env.locals h news' → AllBare gs → J n m' news' → Q .next { s with heap := h, toks := tk, gens := gs })
    (step : ∀ I i m₁ news₁ t h tk gs, i < n → J i m₁ news₁ → (∀ p ∈ news₁, p.1 ≠ I) → Fr h₀ env.locals h (fun y => if y = x then some (.int (a + (i : Int)) t) else m₁ y) →
      News h₀ env.locals h ((I, itR (a + ((i + 1 : Nat) : Int)) ((n : Int) - ((i + 1 : Nat) : Int))) :: news₁) → AllBare gs →
      wpAny (model prog w) A (execs body env) (ForStepG h₀ env.locals s I (itR (a + ((i + 1 : Nat) : Int)) ((n : Int) - ((i + 1 : Nat) : Int))) (J (i + 1))) E { s with heap := h, toks := tk, gens := gs })
    (hE : PassesOwn (model prog w) A env E := by passes_own) :
    wpAny (model prog w) A (pyIter (.ref r)) (fun it s₂ => LoopAtG prog w A h₀ env x px body Q E it s₂) E s := by
  refine wpAny_pyIter_range hr hsmall ?_
  refine forRangeG hh hx hp (I := s.heap.objs.size) (a := a) (n := n) (by show IsRangeIter _ _ _ _ _; rw [hn]; simpa using Heap.get?_push_size _ rfl) (next_is_new F) (Nat.ne_of_lt F.ns.lt) (fun p hp => Nat.ne_of_lt (Heap.lt_size (N p hp).1)) (F.push _) (fun p hp => ⟨Heap.get?_push_of_some _ (N p hp).1, (N p hp).2⟩) G J h0 ?_ ?_
  · intro i m₁ news₁ t h tk gs hi hJ hnw F₁ N₁ G₁
    refine wpAny_mono (wpAny_passesOwn hE (step s.heap.objs.size i m₁ news₁ t h tk gs hi hJ hnw F₁ N₁ G₁)) (fun f s₃ h₃ => ?_) fun _ _ e => e
    obtain ⟨rfl, h', tk', gs', m₂, news₂, rfl, r⟩ := h₃
    exact ⟨rfl, h', tk', gs', m₂, news₂, rfl, r⟩
  · intro h tk gs m' news' F₁ N₁ G₁ hJ
    exact done h tk gs m' news' F₁ N₁ G₁ hJ
end
end Mine
end
-- BL1h
section
open PySem PySem.W PyProof.Rows PySem.Calls PySem.Spec
namespace Mine
set_option maxRecDepth 100000
set_option maxHeartbeats 8000000
def TrueEnd (tabs : List (Addr × Addr)) (s₁ : Shared) (r : Result) (s' : Shared) : Prop :=
  r = .ok (.ret (.bool true)) ∧ (∀ b o, (ghostOf s₁.heap tabs).get? b = some o → s'.heap.get? b = some o) ∧ s'.os = s₁.os ∧ AllBare s'.gens ∧ GrownAll tabs s'.heap
theorem kn_postT {M : Model} {A : Around} {cd : Code} {s s₁ : Shared} {cw : ClaimW} {cl : Str → Option Addr} {mean : ExcName → Option Value} {args : List WData} {tabs : List (Addr × Addr)} (hT : TabsAt tabs s₁.heap) (hr : ∀ a x, cw.raises a x = false)
    (hp : cw.post args (ofPy (.bool true)) args = true) (h : codeAny M A cd (TrueEnd tabs s₁) s) : codeAny M A cd (GoodWG cw cl mean args s₁) s :=
  codeAny_mono h fun r s' ⟨hv, hk, hos, hg, hgr⟩ => by
    have keep : ∀ b o, b ∉ tabs.map (·.2) → s₁.heap.get? b = some o → s'.heap.get? b = some o := fun b o hb e => hk b o (ghost_ne e hb)
    have grown : ∀ b o, b ∈ tabs.map (·.2) → s₁.heap.get? b = some o → isCodeTable s₁.heap b ∧ o = tabObj #[] ∧ ∃ ps, s'.heap.get? b = some (tabObj ps) := fun b o hb e => by
      obtain ⟨q, hq, rfl⟩ := List.mem_map.mp hb
      have e2 := (hT q hq).2
      rw [e] at e2
      exact ⟨((hT q hq).1.tab (hT q hq).2).isCodeTable, Option.some.inj e2, hgr.get q hq⟩
    refine ⟨.inl ⟨.bool true, ofPy (.bool true), [], hv, hr args, ?_, hp, fun _ => ⟨List.nodup_nil, fun _ h => nomatch h⟩⟩, ⟨fun b o e => ?_, fun b o e => ?_⟩, hos, hg⟩
    · constructor
    · by_cases hb : b ∈ tabs.map (·.2)
      · obtain ⟨ht, rfl, ps, hP⟩ := grown b o hb e
        exact .inr (.inl ⟨ht, rfl, #[], ps, rfl, by rw [Array.empty_append]; exact hP⟩)
      · exact .inl (keep b o hb e)
    · by_cases hb : b ∈ tabs.map (·.2)
      · obtain ⟨_, _, ps, hP⟩ := grown b o hb e
        exact ⟨_, hP⟩
      · exact ⟨o, keep b o hb e⟩
end Mine
end
-- E5
section
open PySem PySem.W PyProof.Rows PySem.Calls PySem.Spec
namespace Mine
set_option maxRecDepth 100000
set_option maxHeartbeats 4000000
theorem fillE5 : (Challenge.rw_re0104_02, hd.heap_1) = (Challenge.rw_re0104_02, hd.heap_1) := by
  k_fill
  rfl
/-- of the law's own body and scope -/
def AtLaw (w : World) (Φ : List Stmt → Scope → Prop) : Prop := ∀ o, (hd.heap_1 w.params).lookup 178 = some o → match o.data with
  | .func fd => (match fd.body with | .stmts b => Φ b fd.scope | _ => True)
  | _ => True
theorem atLaw_intro {w : World} {Φ : List Stmt → Scope → Prop} {oc od osl name qual params b sc dV kV doc pm an cdv ct} (h : (hd.heap_1 w.params).lookup 178 = some ⟨oc, od, .func (fnOf name qual params b sc dV kV doc pm an cdv ct), osl⟩) (k : Φ b sc) : AtLaw w Φ := fun o ho => by
  rw [h] at ho
  cases ho
  exact k
theorem atLaw_use {w : World} {Φ : List Stmt → Scope → Prop} {oc od osl name qual params b sc dV kV doc pm an cdv ct} (A : AtLaw w Φ) (h : (hd.heap_1 w.params).lookup 178 = some ⟨oc, od, .func (fnOf name qual params b sc dV kV doc pm an cdv ct), osl⟩) : Φ b sc := A _ h
theorem nextUse {w : World} {Φ : List Stmt → Scope → Prop} {G : Prop} {oc od osl name qual params b sc dV kV doc pm an cdv ct} (A : AtLaw w Φ) (h : (hd.heap_1 w.params).lookup 178 = some ⟨oc, od, .func (fnOf name qual params b sc dV kV doc pm an cdv ct), osl⟩) (k : Φ b sc → G) : G := k (A _ h)
/-- what stands all along -/
structure Cx (w : World) (mean : ExcName → Option Value) (mg mb : Str → Option Value) (gh : Heap) : Prop where
  X : (hd.heap_1 w.params).In gh
  T : Top topProg LO mean mg mb gh
  B : Below callerA gh [] gh
/-- the law's own scope holds two cells: rule, least -/
def LFin (gh : Heap) (L : Addr) (s : Shared) (Q : Flow → Shared → Prop) : Prop :=
  ∀ m h tk gs p1 p2 p3, Fr gh L h m → News gh L h [(37, tabObj p1), (44, tabObj p2), (112, tabObj p3)] → AllBare gs → Q (.ret (.bool true)) { s with heap := h, toks := tk, gens := gs }
theorem LFin.to {gh : Heap} {L : Addr} {s : Shared} {Q : Flow → Shared → Prop} (h : LFin gh L s Q) (hp : Heap) (tk : Nat) (gs : Array GenState) : LFin gh L { s with heap := hp, toks := tk, gens := gs } Q := fun m h' tk' gs' p1 p2 p3 F N G => h m h' tk' gs' p1 p2 p3 F N G
/-- a stretch of the law: from its k-th statement on, all is well -/
def Stretch (w : World) (k : Nat) (Pre : Addr → (Str → Option Value) → Ledg → Prop) : Prop :=
  AtLaw w fun b sc => ∀ (mean : ExcName → Option Value) (mg mb : Str → Option Value) (gh : Heap) (L fa : Addr) (cd : Value) (s : Shared) (Q : Flow → Shared → Prop) (R : Result → Shared → Prop) (m : Str → Option Value) (news : Ledg),
    Cx w mean mg mb gh → Fr gh L s.heap m → News gh L s.heap news → AllBare s.gens → LFin gh L s Q → Pre L m news →
      wpAny (model Challenge.rw_re0104_02.row.prog w) (callerA.deeper (envOfC (Str.ofString "law") sc L fa cd)) (execs (b.drop k) (envOfC (Str.ofString "law") sc L fa cd)) Q (fun e s' => wpAny (model Challenge.rw_re0104_02.row.prog w) (callerA.deeper (envOfC (Str.ofString "law") sc L fa cd)) (leaving (envOfC (Str.ofString "law") sc L fa cd) e) (fun _ s'' => R (.error e) s'') (fun e' s'' => R (.error e') s'') s') s
/-- a list -/
structure LI where
  at_ : Addr
  vs : List Value
  n : Nat
abbrev lLed (l : List LI) : Ledg := l.map fun p => (p.at_, listOf p.vs.toArray p.n)
abbrev lIts (l : List LI) : List Value := l.map fun p => .ref p.at_
abbrev tabs0 : Ledg := [(37, tabObj #[]), (44, tabObj #[]), (112, tabObj #[])]
/-- the rule -/
inductive After1 (L : Addr) (m : Str → Option Value) (news : Ledg) : Prop
  | mk (ra : Addr) (r : Rule) (rt : RuleT) (oL oR : Obj) (q : Option Value) (ho : r.Ok) (dR : oR.data = .cell (some (.ref ra))) (dL : oL.data = .cell q) (hn : news = (L + 1 + 1, oL) :: (L + 1, oR) :: (ra, ruleObj r rt) :: tabs0)
/-- the limits -/
inductive After2 (L : Addr) (m : Str → Option Value) (news : Ledg) : Prop
  | mk (ra la : Addr) (r : Rule) (rt : RuleT) (lv : List Value) (ln : Nat) (oL oR : Obj) (q : Option Value) (ho : r.Ok) (dR : oR.data = .cell (some (.ref ra))) (dL : oL.data = .cell q) (hl : IntsAre lv ((List.range 16).map fun k => (r.limN k : Int))) (e1 : m (Str.ofString "limits") = some (.ref la))
    (hn : news = (la, listOf lv.toArray ln) :: (L + 1 + 1, oL) :: (L + 1, oR) :: (ra, ruleObj r rt) :: tabs0)
/-- what stays as it is -/
structure Fix where
  r : Rule
  rt : RuleT
  ra : Addr
  la : Addr
  lv : List Value
  ln : Nat
  x : Addr
  dx : Addr
  dob : Obj
  ro : Addr
  wi : Addr
structure Fix.Ok (f : Fix) : Prop where
  ho : f.r.Ok
  hl : IntsAre f.lv ((List.range 16).map fun k => (f.r.limN k : Int))
  hdx : f.dx ≠ f.x
  hdo : OwnDict f.dob
  hrw : f.ro ≠ f.wi
def RowsAre (r : Rule) (h : Nat) (IL : List LI) : Prop := IL.length = h + 1 ∧ ∀ j p, IL[j]? = some p → IntsAre p.vs ((rowN r.limN j).reverse.map fun (k : Nat) => (k : Int))
def WinsAre (r : Rule) (h : Nat) (BL : List LI) : Prop := BL.length = h + 1 ∧ ∀ j p, BL[j]? = some p → p.vs = (winsN r.limN j).map Value.bool
/-- the ledger behind the cells, the rule, the limits, rows and wins -/
abbrev restH (f : Fix) (R : List Part) (n : Nat) (t : Ledg) (ps : Array Value) (ex : Ledg) (IL BL : List LI) : Ledg :=
  rowL f.x f.dx R n f.dob ((f.ra, ruleObj f.r f.rt) :: (t ++ ((112, tabObj ps) :: (ex ++ (lLed IL ++ lLed BL)))))
/-- the names, rows, wins, the cells -/
structure Names (f : Fix) (L : Addr) (oL oR : Obj) (m : Str → Option Value) : Prop where
  dR : oR.data = .cell (some (.ref f.ra))
  dL : ∃ q, oL.data = .cell q
  e1 : m (Str.ofString "limits") = some (.ref f.la)
  e2 : m (Str.ofString "row") = some (.ref f.x)
  e3 : m (Str.ofString "rows") = some (.ref f.ro)
  e4 : m (Str.ofString "wins") = some (.ref f.wi)
/-- h heaps are grown -/
inductive Heaps (f : Fix) (L : Addr) (h : Nat) (m : Str → Option Value) (news : Ledg) : Prop
  | mk (R : List Part) (n : Nat) (IL BL : List LI) (rn wn : Nat) (t : Ledg) (ps : Array Value) (ex : Ledg) (oL oR : Obj) (ht : Tabs t) (hT : Tab 129 19 qLen ps ex) (hX : rX R = (rowN f.r.limN h).reverse.map xs) (hI : RowsAre f.r h IL) (hB : WinsAre f.r h BL) (nm : Names f L oL oR m)
    (hn : news = (f.ro, listOf (lIts IL).toArray rn) :: (f.wi, listOf (lIts BL).toArray wn) :: (f.la, listOf f.lv.toArray f.ln) :: (L + 1 + 1, oL) :: (L + 1, oR) :: restH f R n t ps ex IL BL)
/-- behind the head of the law -/
inductive After5 (L : Addr) (m : Str → Option Value) (news : Ledg) : Prop
  | mk (f : Fix) (ok : f.Ok) (h : Heaps f L 0 m news)
/-- the loop's body -/
def forBody (b : List Stmt) : List Stmt := match b.drop 6 with
  | .For _ _ body _ _ :: _ => body
  | _ => []
/-- a stretch of the loop's body -/
def BStretch (w : World) (k : Nat) (f : Fix) (i : Nat) (Pre : Addr → (Str → Option Value) → Ledg → Prop) : Prop :=
  AtLaw w fun b sc => ∀ (mean : ExcName → Option Value) (mg mb : Str → Option Value) (gh : Heap) (L fa : Addr) (cd : Value) (s : Shared) (I : Addr) (it : Int) (jt : Int) (R : Result → Shared → Prop) (m : Str → Option Value) (news : Ledg),
    Cx w mean mg mb gh → Fr gh L s.heap m → News gh L s.heap ((I, itR it jt) :: news) → AllBare s.gens → Pre L m news →
      wpAny (model Challenge.rw_re0104_02.row.prog w) (callerA.deeper (envOfC (Str.ofString "law") sc L fa cd)) (execs ((forBody b).drop k) (envOfC (Str.ofString "law") sc L fa cd)) (ForStepG gh L s I (itR it jt) (Heaps f L (i + 1))) (fun e s' => wpAny (model Challenge.rw_re0104_02.row.prog w) (callerA.deeper (envOfC (Str.ofString "law") sc L fa cd)) (leaving (envOfC (Str.ofString "law") sc L fa cd) e) (fun _ s'' => R (.error e) s'') (fun e' s'' => R (.error e') s'') s') s
end Mine
end
-- E6
section
open PySem PySem.W PyProof.Rows PySem.Calls PySem.Spec
namespace Mine
theorem off14 : True := by
  w_top off
  k_with_none
  exact trivial
set_option maxRecDepth 100000
set_option maxHeartbeats 4000000
theorem fillE6 : (Challenge.rw_re0104_02, hd.heap_1) = (Challenge.rw_re0104_02, hd.heap_1) := by
  k_fill
  rfl
theorem fmod_range2 (a b : Int) (h : 0 < b) : 0 ≤ a.fmod b ∧ a.fmod b < b := by
  rw [Int.fmod_eq_emod_of_nonneg _ (Int.le_of_lt h)]
  exact ⟨Int.emod_nonneg _ (Int.ne_of_gt h), Int.emod_lt_of_pos _ h⟩
theorem rule_make (a b c d e f : Int) : Rule.Ok ⟨a.fmod 7, 1 + b.fmod 4, (c + 4).fmod 9 - 4, 1 - 2 * d.fmod 2, e.fmod 6, 1 + f.fmod 9⟩ := by
  have m7 := fmod_range2 a 7 (by decide)
  have m4 := fmod_range2 b 4 (by decide)
  have m9 := fmod_range2 (c + 4) 9 (by decide)
  have m2 := fmod_range2 d 2 (by decide)
  have m6 := fmod_range2 e 6 (by decide)
  have n9 := fmod_range2 f 9 (by decide)
  have u2 : 1 - 2 * d.fmod 2 = 1 ∨ 1 - 2 * d.fmod 2 = -1 := by
    rcases (show d.fmod 2 = 0 ∨ d.fmod 2 = 1 by omega) with h | h <;> rw [h] <;> simp
  exact ⟨m7.1, show a.fmod 7 ≤ 6 by omega, show 1 ≤ 1 + b.fmod 4 by omega, show 1 + b.fmod 4 ≤ 4 by omega, show -4 ≤ (c + 4).fmod 9 - 4 by omega, show (c + 4).fmod 9 - 4 ≤ 4 by omega, u2, m6.1, show e.fmod 6 ≤ 5 by omega, show 1 ≤ 1 + f.fmod 9 by omega, show 1 + f.fmod 9 ≤ 9 by omega⟩
theorem ph1 (w : World) (vs0 : List Value) (ns0 : List Int) (ls : Addr) (hI : IntsAre vs0 ns0) (hlen : ns0.length ≤ 63) (next : Stretch w 2 After1) :
    AtLaw w fun b sc => ∀ (mean : ExcName → Option Value) (mg mb : Str → Option Value) (gh : Heap) (L fa : Addr) (cd : Value) (s : Shared) (Q : Flow → Shared → Prop) (R : Result → Shared → Prop) (m : Str → Option Value) (oL oR : Obj) (q1 q2 : Option Value),
      Cx w mean mg mb gh → gh.IsList ls vs0.toArray → Fr gh L s.heap m → m (Str.ofString "script") = some (.ref ls) → oL.data = .cell q1 → oR.data = .cell q2 → News gh L s.heap ((L + 1 + 1, oL) :: (L + 1, oR) :: tabs0) → AllBare s.gens → LFin gh L s Q →
      wpAny (model Challenge.rw_re0104_02.row.prog w) (callerA.deeper (envOfC (Str.ofString "law") sc L fa cd)) (execs b (envOfC (Str.ofString "law") sc L fa cd)) Q (fun e s' => wpAny (model Challenge.rw_re0104_02.row.prog w) (callerA.deeper (envOfC (Str.ofString "law") sc L fa cd)) (leaving (envOfC (Str.ofString "law") sc L fa cd) e) (fun _ s'' => R (.error e) s'') (fun e' s'' => R (.error e') s'') s') s := by
  refine' atLaw_intro ?k6 ?_; (case k6 => k_is)
  refine' nextUse next ?k7 ?_; (case k7 => k_is)
  intro nx
  intro mean mg mb gh L fa cd s Q R m oL oR q1 q2 CX hL F ms dL dR N G fin
  obtain ⟨X', T', B'⟩ := CX
  (try k_fold)
  rw [cn1 ms] at F
  repeat' (first | (k_unfold; (try dsimp only)) | ((fail_if_success (with_reducible show wpAny _ _ (subscriptTail (Expr.List _ _) _ _ _) _ _ _)); first | walk1 | (dsimp only; walk1)))
  with_reducible rename Fr _ _ _ _ => F2
  with_reducible rename News _ _ _ _ => N2
  refine kba_turn (value' := PySem.Expr.Name (PySem.Str.ofString "_") ⟨0, 0, 0, 0⟩) (fun _ => rfl) ?_
  refine kmk_slice_ints F2 N2 ⟨_, (N2 _ (.tail _ (.head _))).1, rfl, _, rfl⟩ (by kmk_part) (by kmk_part) (.cons _ _ (.cons _ _ (.cons _ _ (.cons _ _ (.cons _ _ (.cons _ _ .nil)))))) (kmk_from (.cons _ _ (.cons _ _ (.cons _ _ (.cons _ _ (.cons _ _ (.cons _ _ .nil)))))) (by omega)) rfl ?_ (by with_unfolding_all rfl) (by intro _; with_unfolding_all rfl) (Nat.le_of_ble_eq_true rfl)
  intro D3 ws3 h3 F3 N3 l3 hI3 hC3 hL3
  clear F2 N2
  k_lt l3
  k_steps
  with_reducible rename Fr _ _ _ _ => F4
  with_reducible rename News _ _ _ _ => N4
  with_reducible rename IntsAre _ (_ ++ _) => hI4
  generalize List.take 6 ns0 ++ List.drop (((List.take 6 ns0).length : Int)).toNat [2, 0, 0, 0, 0, 0] = nn at *
  clear hI3 hC3 hL3 l3 hI4
  have N5 : News gh L _ ([(L + 1 + 1, oL)] ++ (L + 1, oR) :: (_, ruleObj ⟨_, _, _, _, _, _⟩ ⟨_, _, _, _, _, _⟩) :: tabs0) := newsSub N4 (by
    intro p hp
    simp only [List.mem_cons, List.mem_append, List.not_mem_nil, or_false] at hp ⊢
    rcases hp with h | h | h | h | h | h
    · exact .inr (.inr (.inr (.inr (.inr (.inr (.inl h))))))
    · exact .inr (.inr (.inr (.inr (.inr (.inr (.inr (.inl h)))))))
    · exact .inl h
    · exact .inr (.inr (.inr (.inr (.inr (.inr (.inr (.inr (.inl h))))))))
    · exact .inr (.inr (.inr (.inr (.inr (.inr (.inr (.inr (.inr (.inl h)))))))))
    · exact .inr (.inr (.inr (.inr (.inr (.inr (.inr (.inr (.inr (.inr (h)))))))))))
  clear N4
  refine stCNk F4 N5 rfl dR ⟨.inl (Nat.succ_ne_self _), trivial⟩ ⟨.inr (fun v e => by cases e), .inr (fun v e => by cases e), .inr (fun v e => by cases e), .inr (fun v e => by cases e), trivial⟩ ?_
  intro h6 oR2 F6 N6 dR2
  refine nx mean mg mb gh L fa cd _ Q R _ _ ⟨X', T', B'⟩ F6 N6 G (fin.to _ _ _) (.mk _ _ _ oL oR2 q1 ?_ dR2 dL rfl)
  exact rule_make _ _ _ _ _ _
end Mine
end
-- E7
section
open PySem PySem.W PyProof.Rows PySem.Calls PySem.Spec
namespace Mine
theorem off15 : True := by
  w_top off
  k_with_none
  exact trivial
set_option maxRecDepth 100000
set_option maxHeartbeats 4000000
theorem fillE7 : (Challenge.rw_re0104_02, hd.heap_1) = (Challenge.rw_re0104_02, hd.heap_1) := by
  k_fill
  rfl
theorem ph2 (w : World) (next : Stretch w 3 After2) : Stretch w 2 After1 := by
  unfold Stretch
  refine' atLaw_intro ?k6 ?_; (case k6 => k_is)
  refine' nextUse next ?k7 ?_; (case k7 => k_is)
  intro nx mean mg mb gh L fa cd s Q R m news CX F N G fin hzz
  refine hideG ?_; intro HP back; obtain ⟨ra, r, rt, oL, oR, q, ho, dR, dL, rfl⟩ := hzz; refine back ?_; clear back HP
  obtain ⟨X', T', B'⟩ := CX
  dsimp only [List.drop] at nx ⊢
  (try k_fold)
  repeat' (first | (k_unfold; (try dsimp only)) | ((fail_if_success (with_reducible show LCg.CompSrc _ _ _ _ _ _ _ _ _ _ _ _ _ _)); first | walk1 | (dsimp only; walk1)))
  with_reducible rename Fr _ _ _ _ => F2
  with_reducible rename News _ _ _ _ => N2
  refine LCg.CompSrc.range (n := 16) rfl F2 N2 (by assumption) (by decide) (by decide) (by decide) ?_
  intro g9
  refine comp_ind 16 (fun i ys news => IntsAre ys ((List.range i).map fun k => (r.limN k : Int)) ∧ news = (L + 1 + 1, oL) :: (L + 1, oR) :: (ra, ruleObj r rt) :: tabs0) ?_ ?_ 16 0 [] _ rfl ⟨.nil, rfl⟩
  · rintro ys news ⟨hy, rfl⟩
    intro D9 h9 tk9 F9 N9 o9
    exact nx mean mg mb gh L fa cd _ Q R _ _ ⟨X', T', B'⟩ F9 N9 G (fin.to _ _ _) (.mk ra D9 r rt ys ys.length oL oR q ho dR dL hy rfl rfl)
  · rintro i ys news hi ⟨hy, rfl⟩ v I oI C oC D2 m2 h7 tk7 E7 ⟨tv, rfl⟩ hC hm2 F7 N7 off7 ne7
    clear F2 N2
    repeat' (first | (k_unfold; (try dsimp only)) | ((fail_if_success (with_reducible show wpAny _ _ (call (Value.ref 168) _) _ _ _)); first | walk1 | (dsimp only; walk1)))
    with_reducible rename Fr _ _ _ _ => F8
    with_reducible rename News _ _ _ _ => N8
    refine CallOk.use ((limit_ok w mean mg mb ra r rt (0 + (i : Int)) tv ho (by omega) (by omega)).frameSame (fun _ _ h => h.1) ((I, oI) :: (C, oC) :: (D2, LCg.lst ys) :: (L + 1 + 1, oL) :: (L + 1, oR) :: tabs0)) B' F8 X' (newsSub N8 ?_) T' rfl (by ktr_room) (by ktr_units) ?_
    · intro p hp
      simp only [List.mem_cons, List.mem_append, List.not_mem_nil, or_false] at hp ⊢
      rcases hp with h | h | h | h | h | h | h | h | h <;> simp only [h, true_or, or_true]
    intro r1 nw1 h1 tk1 F9 N9 K9 hzz
    refine hideG ?_; intro HP back; obtain ⟨rfl, -, tz, rfl⟩ := hzz; refine back ?_; clear back HP
    clear F8 N8
    refine LCg.CompEnd.intro F9 N9 ((L + 1 + 1, oL) :: (L + 1, oR) :: (ra, ruleObj r rt) :: tabs0) ?_ off7 trivial ⟨?_, rfl⟩
    · intro p hp
      simp only [List.mem_cons, List.mem_append, List.not_mem_nil, or_false] at hp ⊢
      rcases hp with h | h | h | h | h | h | h | h | h <;> simp only [h, true_or, or_true]
    · rw [List.range_succ, List.map_append]
      refine ints_append hy ?_
      have e : (if r.lim (0 + (i : Int)) > 0 then r.lim (0 + (i : Int)) else 0) = (r.limN i : Int) := by
        unfold Rule.limN
        rw [Int.zero_add]
        split <;> omega
      rw [e]
      exact .cons _ _ .nil
end Mine
end
-- E8
section
open PySem PySem.W PyProof.Rows PySem.Calls PySem.Spec
namespace Mine
theorem off16 : True := by
  w_top off
  k_with_none
  exact trivial
set_option maxRecDepth 100000
set_option maxHeartbeats 4000000
theorem fillE8 : (Challenge.rw_re0104_02, hd.heap_1) = (Challenge.rw_re0104_02, hd.heap_1) := by
  k_fill
  rfl
theorem name4 {P : Prop} {h₀ h : Heap} {L a b c d : Addr} {oa ob oc od : Obj} {rest : Ledg} (_ : News h₀ L h ((a, oa) :: (b, ob) :: (c, oc) :: (d, od) :: rest)) (k : ∀ a' b' c' d', a' = a → b' = b → c' = c → d' = d → P) : P := k a b c d rfl rfl rfl rfl
theorem wins0 (f : Nat → Nat) : winsN f 0 = [false] := rfl
theorem ph3 (w : World) (next : Stretch w 6 After5) : Stretch w 3 After2 := by
  unfold Stretch
  refine' atLaw_intro ?k6 ?_; (case k6 => k_is)
  refine' nextUse next ?k7 ?_; (case k7 => k_is)
  intro nx mean mg mb gh L fa cd s Q R m news CX F N G fin hzz
  refine hideG ?_; intro HP back; obtain ⟨ra, la, r, rt, lv, ln, oL, oR, q, ho, dR, dL, hl, e1, rfl⟩ := hzz; refine back ?_; clear back HP
  obtain ⟨X', T', B'⟩ := CX
  dsimp only [List.drop] at nx ⊢
  (try k_fold)
  rw [cn1 e1] at F
  repeat' (first | (k_unfold; (try dsimp only)) | ((fail_if_success (with_reducible show wpAny _ _ (call (Value.ref 150) _) _ _ _)); first | walk1 | (dsimp only; walk1)))
  refine CallOk.use ((make_ok w mean mg mb).frame ((la, listOf lv.toArray ln) :: (L + 1 + 1, oL) :: (L + 1, oR) :: (ra, ruleObj r rt) :: tabs0) (fun _ _ _ N p hp hm => nomatch hm)) B' F X' N T' rfl (by ktr_room) (by ktr_units) ?_
  intro r1 nw1 h1' tk1 F1 N1 K1 hzz
  refine hideG ?_; intro HP back; obtain ⟨nw2, rfl, hap, x, dx, dob, rfl, hdx, hdo, rfl⟩ := hzz; refine back ?_; clear back HP
  clear F N
  dsimp only
  repeat' (first | (k_unfold; (try dsimp only)) | ((fail_if_success (with_reducible show wpAny _ _ (execs (Stmt.For _ _ _ _ _ :: _) _) _ _ _)); first | walk1 | (dsimp only; walk1)))
  with_reducible rename Fr _ _ _ _ => F3
  with_reducible rename News _ _ _ _ => N3
  rename _ ∧ _ ∧ _ ∧ AllLt _ _ => l3
  refine name4 N3 ?_
  intro wi w0 ro r0 e1' e2' e3' e4'
  subst e1' e2' e3' e4'
  refine nx mean mg mb gh L fa cd _ Q R _ ((ro, listOf (lIts [⟨r0, [], 0⟩]).toArray 0) :: (wi, listOf (lIts [⟨w0, [.bool false], 0⟩]).toArray 0) :: (la, listOf lv.toArray ln) :: (L + 1 + 1, oL) :: (L + 1, oR) :: restH ⟨r, rt, ra, la, lv, ln, x, dx, dob, ro, wi⟩ [] 0 [(37, tabObj #[]), (44, tabObj #[])] #[] [] [⟨r0, [], 0⟩] [⟨w0, [.bool false], 0⟩]) ⟨X', T', B'⟩ F3 (newsSub N3 ?_) G (fin.to _ _ _) (.mk ⟨r, rt, ra, la, lv, ln, x, dx, dob, ro, wi⟩ ⟨ho, hl, hdx, hdo, Nat.ne_of_lt l3.2.1⟩ (.mk [] 0 [⟨r0, [], 0⟩] [⟨w0, [.bool false], 0⟩] 0 0 [(37, tabObj #[]), (44, tabObj #[])] #[] [] oL oR ⟨_, _, _, _, .none, .none, rfl⟩ .none rfl ⟨rfl, ?_⟩ ⟨rfl, ?_⟩ ⟨dR, ⟨_, dL⟩, rfl, rfl, rfl, rfl⟩ rfl))
  · intro p hp
    simp only [rLed, lLed, List.map_cons, List.map_nil, List.mem_cons, List.mem_append, List.not_mem_nil, or_false, false_or] at hp ⊢
    rcases hp with h | h | h | h | h | h | h | h | (h | h) | h | h | h <;> simp only [h, true_or, or_true]
  · intro j p hp
    match j with
    | 0 => cases hp; exact .nil
    | j + 1 => simp at hp
  · intro j p hp
    match j with
    | 0 => cases hp; rw [wins0]; rfl
    | j + 1 => simp at hp
end Mine
end
-- E9
section
open PySem PySem.W PyProof.Rows PySem.Calls PySem.Spec
namespace Mine
set_option maxRecDepth 100000
set_option maxHeartbeats 4000000
/-- the kinds of what the law makes: 0 the row, 1 the rule and two tables, 2 the third table, 3 lists, cells, iterators -/
def grp (p : Addr × Obj) : Nat := match p.2.data with
  | .seq its _ => (match (p.2.cls : Value) with | Value.ref _ => 0 | Value.type T => if T = "list" then 3 else if its.size = 2 then 0 else 1 | _ => 3)
  | .dict _ _ => 0
  | .fields vs => (match (vs[1]? : Option Value) with | some (Value.str q _) => if q = qLen then 2 else 1 | _ => (match (p.2.cls : Value) with | Value.none => if p.1 = 112 then 2 else 1 | _ => 3))
  | _ => 3
theorem grp_acc {x dx : Addr} {its : Array Value} {n : Nat} : grp (x, accObj dx its n) = 0 := rfl
theorem grp_dob {dx : Addr} {dob : Obj} (h : OwnDict dob) : grp (dx, dob) = 0 := by
  refine hideG ?_; intro HP back; obtain ⟨hs, k, tv, rfl⟩ := h.is; refine back ?_; clear back HP
  rfl
theorem grp_rL {R : List Part} : ∀ q ∈ rLed R, grp q = 0 := fun q hq => by
  obtain ⟨p, _, rfl⟩ := List.mem_map.mp hq; rfl
theorem grp_rule {ra : Addr} {r : Rule} {rt : RuleT} : grp (ra, ruleObj r rt) = 1 := rfl
theorem grp_list {a : Addr} {its : Array Value} {n : Nat} : grp (a, listOf its n) = 3 := rfl
theorem grp_it {a : Addr} {i j : Int} : grp (a, itR i j) = 3 := rfl
theorem grp_cell {a : Addr} {o : Obj} {v : Option Value} (h : o.data = .cell v) : grp (a, o) = 3 := by unfold grp; rw [show (a, o).2.data = .cell v from h]
theorem grp_lL {l : List LI} : ∀ q ∈ lLed l, grp q = 3 := fun q hq => by
  obtain ⟨p, _, rfl⟩ := List.mem_map.mp hq; rfl
theorem q_apart : qI2D ≠ qLen ∧ qD2I ≠ qLen := by decide +kernel
theorem tab_head {line col : Nat} {q : Str} {ps : Array Value} {ex : Ledg} (h : Tab line col q ps ex) (a : Addr) : grp (a, tabObj ps) = if a = 112 then 2 else 1 := by
  cases h with
  | none => rfl
  | some _ _ => rfl
theorem tab_ex {line col : Nat} {q : Str} {ps : Array Value} {ex : Ledg} (h : Tab line col q ps ex) : ∀ p ∈ ex, grp p = if q = qLen then 2 else 1 := fun p hp => by
  refine hideG ?_; intro HP back; obtain ⟨vs, t, a, b⟩ := h.mem hp; refine back ?_; clear back HP
  unfold grp
  rw [a]
  dsimp only
  rw [b]
theorem grp_tabs {t : Ledg} (ht : Tabs t) : ∀ q ∈ t, grp q = 1 := fun q hq => by
  refine hideG ?_; intro HP back; obtain ⟨p1, e1, p2, e2, t1, t2, rfl⟩ := ht.is; refine back ?_; clear back HP
  rcases List.mem_append.mp hq with hq | hq
  · rcases List.mem_cons.mp hq with rfl | hq
    · rw [tab_head t1]; rfl
    · rw [tab_ex t1 q hq, if_neg q_apart.1]
  · rcases List.mem_cons.mp hq with rfl | hq
    · rw [tab_head t2]; rfl
    · rw [tab_ex t2 q hq, if_neg q_apart.2]
theorem grp_len {ps : Array Value} {ex : Ledg} (h : Tab 129 19 qLen ps ex) : ∀ q ∈ (112, tabObj ps) :: ex, grp q = 2 := fun q hq => by
  rcases List.mem_cons.mp hq with rfl | hq
  · rw [tab_head h]; rfl
  · rw [tab_ex h q hq, if_pos rfl]
theorem dis_grp (P : Nat → Prop) {h₀ h : Heap} {L : Addr} {news rest : Ledg} (h1 : ∀ q ∈ news, P (grp q)) (h2 : ∀ p ∈ rest, ¬ P (grp p)) (N : News h₀ L h (news ++ rest)) : ∀ p ∈ rest, p.1 ∉ news.map (·.1) := by
  intro p hp hm
  obtain ⟨q, hq, e⟩ := List.mem_map.mp hm
  have so := sameObj N (List.mem_append_left _ hq) (List.mem_append_right _ hp) e
  have e2 : q = p := Prod.ext e so
  exact h2 p hp (e2 ▸ h1 q hq)
theorem apart_grp {h₀ h : Heap} {L : Addr} {news : Ledg} (N : News h₀ L h news) {p q : Addr × Obj} (hp : p ∈ news) (hq : q ∈ news) (hne : grp p ≠ grp q) : p.1 ≠ q.1 := fun e => by
  have so := sameObj N hp hq e
  exact hne (congrArg grp (Prod.ext e so))
/-- a row grown among the rest -/
theorem growH (w : World) (mean : ExcName → Option Value) (mg mb : Str → Option Value) (x dx ra : Addr) (R : List Part) (n : Nat) (dob : Obj) (r : Rule) (rt : RuleT) (S : List Nat) {t : Ledg} (W : Ledg) (hdx : dx ≠ x) (hdo : OwnDict dob) (ht : Tabs t) (ho : r.Ok) (hR : rX R = S.reverse.map xs) (hS : S.sum ≤ 14) (hp : ∀ k ∈ S, 1 ≤ k) (hl14 : S.length ≤ 14)
    (hW : ∀ q ∈ W, 2 ≤ grp q) :
    CallOk w mean mg mb (W ++ rowL x dx R n dob ((ra, ruleObj r rt) :: t)) 50 173 [.ref x, .ref ra]
      (fun v nw => ∃ t' R' n' D vs nn, Tabs t' ∧ rX R' = (growN r.limN S).reverse.map xs ∧ v = .ref D ∧ IntsAre vs ((growN r.limN S).reverse.map fun (k : Nat) => (k : Int)) ∧ (∀ q ∈ W ++ rowL x dx R' n' dob ((ra, ruleObj r rt) :: t'), q.1 ≠ D) ∧
        nw = (D, listOf vs.toArray nn) :: (W ++ rowL x dx R' n' dob ((ra, ruleObj r rt) :: t'))) := by
  have near : ∀ {R : List Part} {n : Nat} {t : Ledg}, Tabs t → ∀ q ∈ rowL x dx R n dob ((ra, ruleObj r rt) :: t), grp q < 2 := fun {R n t} ht q hq => by
    simp only [rowL, List.mem_cons, List.mem_append] at hq
    rcases hq with rfl | rfl | h | rfl | h
    · exact Nat.lt_of_lt_of_le (Nat.lt_succ_self _) (by rw [grp_acc]; decide)
    · rw [grp_dob hdo]; decide
    · rw [grp_rL q h]; decide
    · rw [grp_rule]; decide
    · rw [grp_tabs ht q h]; decide
  intro dp un gd cn cs a' ccd cl outer A₀ base h₀ L m s Q E B F X N T hk hdp hun hret
  have C := ((grow_ok w mean mg mb x dx ra R n dob r rt S hdx hdo ht ho hR hS hp hl14).frame W (fun _ _ _ N => dis_grp (fun k => k < 2) (near ht) (fun q hq => Nat.not_lt.mpr (hW q hq)) N))
  refine (C.perm (news₁ := W ++ rowL x dx R n dob ((ra, ruleObj r rt) :: t)) (fun p => by simp only [List.mem_append]; exact Or.comm)).use B F X N T hk hdp hun ?_
  intro v nw h' tk' F' N' K' hr
  refine hideG ?_; intro HP back; obtain ⟨nw', rfl, hap, t', R', n', D, vs, nn, ht', hX, rfl, hI, rfl⟩ := hr; refine back ?_; clear back HP
  have sub : ∀ q ∈ (D, listOf vs.toArray nn) :: (W ++ rowL x dx R' n' dob ((ra, ruleObj r rt) :: t')), q ∈ ((D, listOf vs.toArray nn) :: rowL x dx R' n' dob ((ra, ruleObj r rt) :: t')) ++ W := fun q hq => by
    simp only [List.mem_cons, List.mem_append, List.cons_append] at hq ⊢
    rcases hq with h | h | h | h | h | h | h <;> simp only [h, true_or, or_true]
  refine hret _ _ h' tk' F' (newsSub N' sub) ⟨K'.keep, fun p hp => K'.new p (sub p hp)⟩ ⟨t', R', n', D, vs, nn, ht', hX, rfl, hI, fun q hq => ?_, rfl⟩
  rcases List.mem_append.mp hq with hq | hq
  · exact Ne.symm (hap _ (.head _) q hq)
  · refine apart_grp N' (List.mem_append_left _ (.tail _ hq)) (List.mem_append_left _ (.head _)) ?_
    have := near ht' q hq
    rw [grp_list]
    omega
/-- its length told among the rest -/
theorem lenH (w : World) (mean : ExcName → Option Value) (mg mb : Str → Option Value) (x dx : Addr) (R : List Part) (n : Nat) (dob : Obj) {ps : Array Value} {ex : Ledg} (W : Ledg) (hdo : OwnDict dob) (ht : Tab 129 19 qLen ps ex) (hR : R.length < 100) (hl : ∀ p ∈ R, p.a.length < 100 ∧ p.b.length < 100)
    (hW : ∀ q ∈ W, grp q = 1 ∨ grp q = 3) :
    CallOkG w mean mg mb ((((112, tabObj ps) :: ex) ++ (x, accObj dx (rIts R).toArray n) :: (dx, dob) :: rLed R) ++ W) 3 117 [.ref x]
      (fun r nw => ∃ ps' ex' t, Tab 129 19 qLen ps' ex' ∧ nw = (((112, tabObj ps') :: ex') ++ (x, accObj dx (rIts R).toArray n) :: (dx, dob) :: rLed R) ++ W ∧ (∀ p ∈ ((112, tabObj ps') :: ex'), ∀ q ∈ W, p.1 ≠ q.1) ∧ r = .int (rSum R) t) := by
  intro dp un gd cn cs a' ccd cl outer A₀ base h₀ L m s Q E B F X N T hk hdp hun hG hret
  have row0 : ∀ q ∈ (x, accObj dx (rIts R).toArray n) :: (dx, dob) :: rLed R, grp q = 0 := fun q hq => by
    simp only [List.mem_cons] at hq
    rcases hq with rfl | rfl | h
    · exact grp_acc
    · exact grp_dob hdo
    · exact grp_rL q h
  have hP : ∀ b ∈ (x, accObj dx (rIts R).toArray n) :: (dx, dob) :: rLed R, b.1 ≠ 112 := fun b hb => by
    refine apart_grp N (q := (112, tabObj ps)) (List.mem_append_left _ (List.mem_append_right _ hb)) (List.mem_append_left _ (List.mem_append_left _ (.head _))) ?_
    rw [row0 b hb, grp_len ht _ (.head _)]; decide
  refine ((len_ok0 w mean mg mb x dx R n dob hdo ht hR hl hP).frame W (fun _ _ _ N => dis_grp (fun k => k = 0 ∨ k = 2) (fun q hq => ?_) (fun q hq => ?_) N)).use B F X N T hk hdp hun hG ?_
  · rcases List.mem_append.mp hq with hq | hq
    · exact .inr (grp_len ht q hq)
    · exact .inl (row0 q hq)
  · rcases hW q hq with h | h <;> rw [h] <;> decide
  · intro v nw h' tk' gs' F' N' K' G' hr
    refine hideG ?_; intro HP back; obtain ⟨nw', rfl, hap, ps', ex', t, ht', rfl, rfl⟩ := hr; refine back ?_; clear back HP
    exact hret _ _ h' tk' gs' F' N' K' G' ⟨ps', ex', t, ht', rfl, fun p hp q hq => hap p (List.mem_append_left _ hp) q hq, rfl⟩
theorem eb_canLayAll0 : ∀ bs : List Bool, PyData.canLayAll0 (bs.map PyData.bool) = true
  | [] => rfl
  | _ :: r => by simp [PyData.canLayAll0, PyData.canLay0, eb_canLayAll0 r]
theorem eb_depthAll : ∀ bs : List Bool, PyData.depthAll (bs.map PyData.bool) = 0
  | [] => rfl
  | _ :: r => by simp [PyData.depthAll, PyData.depth, eb_depthAll r]
theorem eb_shaped (bs : List Bool) : SeqAt.shaped (.list (bs.map PyData.bool)) = true := by
  simp [SeqAt.shaped, PyData.canLay0, PyData.depth, eb_canLayAll0, eb_depthAll]
theorem eb_carried : ∀ bs : List Bool, CarriedAll (bs.map Value.bool) (bs.map PyData.bool)
  | [] => .nil
  | b :: r => .cons (.bool b) (eb_carried r)
/-- two lists of bools that are alike -/
theorem ne_bools {prog : Program} {w : World} {A : Around} {E : Value → Shared → Prop} {s : Shared} {a b : Addr} {bs : List Bool} {Q : Value → Shared → Prop} (ha : s.heap.IsList a (bs.map Value.bool).toArray) (hb : s.heap.IsList b (bs.map Value.bool).toArray) (hu : A.units + 64 < cLine) (h : Q (.bool false) s) :
    wpAny (model prog w) A (compareOp .NotEq (.ref a) (.ref b)) Q E s :=
  ne_dataH_same (reads_newData ha (eb_carried bs)) (reads_newData hb (eb_carried bs)) (eb_shaped _) (eb_shaped _) hu (SeqAt.noMix_of_shape (.list .bool) rfl _ _ (list_map_has fun _ => rfl) (list_map_has fun _ => rfl)) (by rw [PySem.Spec.same_self]; exact h)
theorem sum_cast : ∀ S : List Nat, (S.map fun (k : Nat) => (k : Int)).sum = (S.sum : Int)
  | [] => rfl
  | a :: r => by rw [List.map_cons, List.sum_cons, List.sum_cons, sum_cast r, Int.natCast_add]
theorem rSum_is {R : List Part} {S : List Nat} (hR : rX R = S.reverse.map xs) : rSum R = (S.sum : Int) := by
  have e : ∀ j, ((R.getD j part0).a.length : Int) + ((R.getD j part0).b.length : Int) = ((rX R).map fun t => (t.length : Int)).getD j 0 := fun j => by
    unfold rX
    rw [List.map_map, List.getD_eq_getElem?_getD, List.getD_eq_getElem?_getD, List.getElem?_map]
    cases R[j]? with
    | none => rfl
    | some p =>
      show _ = (((p.a ++ p.b).length : Nat) : Int)
      rw [Str.length_append, Int.natCast_add]; rfl
  unfold rSum
  rw [show (fun j => ((R.getD j part0).a.length : Int) + ((R.getD j part0).b.length : Int)) = fun j => ((rX R).map fun t => (t.length : Int)).getD j 0 from funext e, preSum_getD, hR, List.map_map, List.take_of_length_le (by have := congrArg List.length hR; rw [rX_len] at this; simp at this; simp; omega)]
  rw [show ((fun (t : Str) => (t.length : Int)) ∘ xs) = fun (k : Nat) => (k : Int) from funext fun k => by show ((xs k).length : Int) = _; rw [xs_len], sum_cast, List.sum_reverse]
end Mine
end
-- E10
section
open PySem PySem.W PyProof.Rows PySem.Calls PySem.Spec
namespace Mine
theorem off17 : True := by
  w_top off
  k_with_none
  exact trivial
set_option maxRecDepth 100000
set_option maxHeartbeats 4000000
theorem fillE10 : (Challenge.rw_re0104_02, hd.heap_1) = (Challenge.rw_re0104_02, hd.heap_1) := by
  k_fill
  rfl
/-- at the head of a turn -/
structure Start (f : Fix) (i : Nat) (L : Addr) (m : Str → Option Value) (news : Ledg) : Prop where
  hs : Heaps f L i m news
  hh : ∃ t, m (Str.ofString "heap") = some (.int (1 + (i : Int)) t)
theorem Heaps.start {f : Fix} {L : Addr} {i : Nat} {m : Str → Option Value} {news : Ledg} {t : Tok} (H : Heaps f L i m news) : Start f i L (fun y => if y = Str.ofString "heap" then some (.int (1 + (i : Int)) t) else m y) news := by
  refine hideG ?_; intro HP back; obtain ⟨R, n, IL, BL, rn, wn, tt, ps, ex, oL, oR, ht, hT, hX, hI, hB, nm, hn⟩ := H; refine back ?_; clear back HP
  refine hideG ?_; intro HP back; obtain ⟨d1, d2, e1, e2, e3, e4⟩ := nm; refine back ?_; clear back HP
  exact ⟨.mk R n IL BL rn wn tt ps ex oL oR ht hT hX hI hB ⟨d1, d2, e1, e2, e3, e4⟩ hn, _, rfl⟩
theorem Heaps.tabs {f : Fix} {L : Addr} {i : Nat} {m : Str → Option Value} {news : Ledg} (H : Heaps f L i m news) : ∃ p1 p2 p3, ∀ p ∈ [(37, tabObj p1), (44, tabObj p2), (112, tabObj p3)], p ∈ news := by
  refine hideG ?_; intro HP back; obtain ⟨R, n, IL, BL, rn, wn, tt, ps, ex, oL, oR, ht, hT, hX, hI, hB, nm, rfl⟩ := H; refine back ?_; clear back HP
  refine hideG ?_; intro HP back; obtain ⟨p1, e1, p2, e2, t1, t2, rfl⟩ := ht.is; refine back ?_; clear back HP
  refine ⟨p1, p2, ps, fun p hp => ?_⟩
  simp only [List.mem_cons, List.mem_append, List.not_mem_nil, or_false] at hp ⊢
  rcases hp with h | h | h <;> simp only [h, true_or, or_true]
theorem ph4 (w : World) (body : ∀ f i, f.Ok → i < 15 → BStretch w 0 f i (Start f i)) : Stretch w 6 After5 := by
  unfold Stretch
  refine' atLaw_intro ?k6 ?_; (case k6 => k_is)
  have body' := fun f i h1 h2 => atLaw_use (body f i h1 h2) (by k_is)
  clear body
  intro mean mg mb gh L fa cd s Q R m news CX F N G fin hzz
  obtain ⟨f, ok, H⟩ := hzz
  have nx := fun i h2 m news s it jt I => body' f i ok h2 mean mg mb gh L fa cd s I it jt R m news CX
  clear body'
  obtain ⟨X', T', B'⟩ := CX
  dsimp only [forBody, List.drop] at nx ⊢
  (try k_fold)
  repeat' (first | (k_unfold; (try dsimp only)) | ((fail_if_success (with_reducible show wpAny _ _ (exec (Stmt.For _ _ _ _ _) _) _ _ _)); first | walk1 | (dsimp only; walk1)))
  refine For_G (h₀ := gh) ?_
  repeat' (first | (k_unfold; (try dsimp only)) | ((fail_if_success (with_reducible show wpAny _ _ (pyIter _) _ _ _)); first | walk1 | (dsimp only; walk1)))
  with_reducible rename Fr _ _ _ _ => F2
  with_reducible rename News _ _ _ _ => N2
  with_reducible rename IsRange _ _ _ _ _ _ _ _ => R2
  refine iter_G (n := 15) rfl rfl rfl R2 (by decide) (by decide) F2 N2 G (Heaps f L) H ?_ ?_
  · intro h tk gs m' news' F3 N3 G3 H3
    clear F2 N2 nx
    refine hideG ?_; intro HP back; obtain ⟨p1, p2, p3, sub⟩ := H3.tabs; refine back ?_; clear back HP
    dsimp only
    repeat' (first | (k_unfold; (try dsimp only)) | ((fail_if_success (with_reducible show Q _ _)); first | walk1 | (dsimp only; walk1)))
    with_reducible rename Fr _ _ _ _ => F4
    with_reducible rename News _ _ _ _ => N4
    exact fin _ _ _ _ p1 p2 p3 F4 (newsSub N4 sub) G3
  · intro I i m₁ news₁ t h tk gs hi hJ hnw F3 N3 G3
    exact nx i hi _ _ _ _ _ I F3 N3 G3 hJ.start
end Mine
end
-- E12
section
open PySem PySem.W PyProof.Rows PySem.Calls PySem.Spec
namespace Mine
set_option maxRecDepth 100000
set_option maxHeartbeats 4000000
section
variable {prog : Program} {w : World} {A : Around} {E : Value → Shared → Prop} {s : Shared}
theorem item_last {value slice : PySem.Expr} {l : Addr} {vs : List Value} {v : Value} {u : Tok} {Q : Value → Shared → Prop} (hl : s.heap.IsList l (vs ++ [v]).toArray) (hz : vs.length ≤ 1000) (h : Q v s)
    (hs : subscripted slice false (.ref l) (.int (-1) u) = operate [.ref l, .int (-1) u] (getItem (.ref l) (.int (-1) u)) := by with_unfolding_all rfl) :
    wpAny (model prog w) A (subscriptTail value slice (.ref l) (.int (-1) u)) Q E s := by
  refine tail_any hl.typeIs slot_list_getitem.lookup (wpAny_getItem_list_neg hl (by decide) ?_ (by decide) ?_ h) hs
  · simp
    omega
  · simp only [List.size_toArray, List.length_append, List.length_singleton]
    rw [show (-1 + ((vs.length + 1 : Nat) : Int)).toNat = vs.length by omega]
    simp
theorem item_at {value slice : PySem.Expr} {l : Addr} {vs : List Value} {v : Value} {k : Int} {j : Nat} {u : Tok} {Q : Value → Shared → Prop} (hl : s.heap.IsList l vs.toArray) (hk : k = (j : Int)) (hz : j ≤ 1000) (hx : vs[j]? = some v) (h : Q v s)
    (hs : subscripted slice false (.ref l) (.int k u) = operate [.ref l, .int k u] (getItem (.ref l) (.int k u)) := by with_unfolding_all rfl) :
    wpAny (model prog w) A (subscriptTail value slice (.ref l) (.int k u)) Q E s := by
  subst hk
  exact tail_any hl.typeIs slot_list_getitem.lookup (wpAny_getItem_list hl (by omega) (by omega) (by simpa using hx) h) hs
end
theorem ints_last {vs : List Value} {ns : List Int} {k : Int} (h : IntsAre vs (ns ++ [k])) : ∃ vs' t, vs = vs' ++ [.int k t] ∧ IntsAre vs' ns := by
  induction ns generalizing vs with
  | nil =>
    cases h with
    | cons _ t r => cases r; exact ⟨[], t, rfl, .nil⟩
  | cons a r ih =>
    cases h with
    | @cons _ t vs2 _ r2 =>
      obtain ⟨vs', t', e, h'⟩ := ih r2
      exact ⟨.int a t :: vs', t', by rw [e]; rfl, .cons _ _ h'⟩
theorem lim_mono {r : Rule} (ho : r.Ok) {a b : Int} (h : a ≤ b) : r.lim a ≤ r.lim b := by
  obtain ⟨t0, t1, p0, p1, m0, m1, u, e0, e1, s0, s1⟩ := ho
  have q := Int.mul_le_mul_of_nonneg_left h t0
  have z : (r.times * a + r.more).fdiv r.parts ≤ (r.times * b + r.more).fdiv r.parts := by
    rw [Int.fdiv_eq_ediv_of_nonneg _ (by omega), Int.fdiv_eq_ediv_of_nonneg _ (by omega)]
    exact Int.ediv_le_ediv (by omega) (by omega)
  unfold Rule.lim
  split <;> split <;> omega
theorem limN_mono {r : Rule} (ho : r.Ok) : ∀ a b, a ≤ b → r.limN a ≤ r.limN b := fun a b h => by
  have := lim_mono ho (a := a) (b := b) (by omega)
  unfold Rule.limN
  omega
theorem apOr {c : Addr} : ∀ {l : Ledg}, (∀ p ∈ l, p.1 ≠ c ∨ ∀ v, p.2.data ≠ .cell v) → ApartOr c l
  | [], _ => trivial
  | _ :: _, h => ⟨h _ (.head _), apOr fun p hp => h p (.tail _ hp)⟩
theorem tab_nocell {line col : Nat} {q : Str} {ps : Array Value} {ex : Ledg} (h : Tab line col q ps ex) : ∀ p ∈ ex, ∀ v, p.2.data ≠ .cell v := fun p hp v e => by
  obtain ⟨vs, _, a, _⟩ := h.mem hp
  rw [a] at e; cases e
theorem row_nocell {x dx ra : Addr} {R : List Part} {n : Nat} {dob : Obj} {r : Rule} {rt : RuleT} {t : Ledg} {ps : Array Value} {ex : Ledg} {IL BL : List LI} (hdo : OwnDict dob) (ht : Tabs t) (hT : Tab 129 19 qLen ps ex) :
    ∀ q ∈ rowL x dx R n dob ((ra, ruleObj r rt) :: (t ++ ((112, tabObj ps) :: (ex ++ (lLed IL ++ lLed BL))))), ∀ v, q.2.data ≠ .cell v := by
  intro q hq v e
  simp only [rowL, List.mem_cons, List.mem_append] at hq
  rcases hq with rfl | rfl | h | rfl | h | rfl | h | h | h
  · cases e
  · obtain ⟨hs, k, tv, rfl⟩ := hdo.is; cases e
  · obtain ⟨p, _, rfl⟩ := List.mem_map.mp h; cases e
  · cases e
  · obtain ⟨vs, a⟩ := ht.data q h; rw [a] at e; cases e
  · cases e
  · exact tab_nocell hT q h v e
  · obtain ⟨p, _, rfl⟩ := List.mem_map.mp h; cases e
  · obtain ⟨p, _, rfl⟩ := List.mem_map.mp h; cases e
end Mine
end
-- E11
section
open PySem PySem.W PyProof.Rows PySem.Calls PySem.Spec
namespace Mine
theorem off18 : True := by
  w_top off
  k_with_none
  exact trivial
set_option maxRecDepth 100000
set_option maxHeartbeats 4000000
theorem fillE11 : (Challenge.rw_re0104_02, hd.heap_1) = (Challenge.rw_re0104_02, hd.heap_1) := by
  k_fill
  rfl
/-- the ledger of a turn -/
abbrev bodyL (f : Fix) (L : Addr) (R : List Part) (n : Nat) (t : Ledg) (ps : Array Value) (ex : Ledg) (IL BL : List LI) (rn wn : Nat) (oL oR : Obj) : Ledg :=
  (f.ro, listOf (lIts IL).toArray rn) :: (f.wi, listOf (lIts BL).toArray wn) :: (f.la, listOf f.lv.toArray f.ln) :: (L + 1 + 1, oL) :: (L + 1, oR) :: restH f R n t ps ex IL BL
/-- the row is grown, its sizes and the last are told -/
inductive Grown (f : Fix) (i : Nat) (L : Addr) (m : Str → Option Value) (news : Ledg) : Prop
  | mk (R : List Part) (n : Nat) (IL BL : List LI) (rn wn : Nat) (t : Ledg) (ps : Array Value) (ex : Ledg) (oL oR : Obj) (D : Addr) (vs : List Value) (nn : Nat) (ht : Tabs t) (hT : Tab 129 19 qLen ps ex) (hX : rX R = (rowN f.r.limN (i + 1)).reverse.map xs) (hI : RowsAre f.r i IL) (hB : WinsAre f.r i BL) (nm : Names f L oL oR m)
    (hh : ∃ t, m (Str.ofString "heap") = some (.int (1 + (i : Int)) t)) (es : m (Str.ofString "sizes") = some (.ref D)) (hs : IntsAre vs ((rowN f.r.limN (i + 1)).reverse.map fun (k : Nat) => (k : Int))) (hl : ∃ t, oL.data = .cell (some (.int (lastN f.r.limN (i + 1) : Int) t)))
    (hn : news = (D, listOf vs.toArray nn) :: bodyL f L R n t ps ex IL BL rn wn oL oR)
theorem row_sum (f : Nat → Nat) {i : Nat} (h : i < 15) : (rowN f i).sum ≤ 14 := by rw [rowN_sum]; omega
theorem row_len (f : Nat → Nat) {i : Nat} (h : i < 15) : (rowN f i).length ≤ 14 := Nat.le_trans (len_le_sum (rowN_pos f i)) (row_sum f h)
theorem pg (w : World) (f : Fix) (i : Nat) (ok : f.Ok) (hi : i < 15) (next : BStretch w 2 f i (Grown f i)) : BStretch w 0 f i (Start f i) := by
  unfold BStretch
  refine' atLaw_intro ?k6 ?_; (case k6 => k_is)
  refine' nextUse next ?k7 ?_; (case k7 => k_is)
  intro nx mean mg mb gh L fa cd s I it jt RR m news CX F N G hzz
  refine hideG ?_; intro HP back; obtain ⟨⟨R, n, IL, BL, rn, wn, t, ps, ex, oL, oR, ht, hT, hX, hI, hB, nm, rfl⟩, th, eh⟩ := hzz; refine back ?_; clear back HP
  refine hideG ?_; intro HP back; obtain ⟨dR, ⟨q, dL⟩, e1, e2, e3, e4⟩ := nm; refine back ?_; clear back HP
  obtain ⟨X', T', B'⟩ := CX
  dsimp only [forBody, List.drop] at nx ⊢
  (try k_fold)
  rw [cn5 e1 e2 e3 e4 eh] at F
  repeat' (first | (k_unfold; (try dsimp only)) | ((fail_if_success (with_reducible show wpAny _ _ (call (Value.ref 173) _) _ _ _)); first | walk1 | (dsimp only; walk1)))
  with_reducible rename Fr _ _ _ _ => F2
  with_reducible rename News _ _ _ _ => N2
  have hW : ∀ q ∈ (I, itR it jt) :: (f.ro, listOf (lIts IL).toArray rn) :: (f.wi, listOf (lIts BL).toArray wn) :: (f.la, listOf f.lv.toArray f.ln) :: (L + 1 + 1, oL) :: (L + 1, oR) :: (112, tabObj ps) :: (ex ++ (lLed IL ++ lLed BL)), 2 ≤ grp q := fun q hq => by
    simp only [List.mem_cons, List.mem_append] at hq
    rcases hq with rfl | rfl | rfl | rfl | rfl | rfl | h | h | h | h
    · rw [grp_it]; decide
    · rw [grp_list]; decide
    · rw [grp_list]; decide
    · rw [grp_list]; decide
    · rw [grp_cell dL]; decide
    · rw [grp_cell dR]; decide
    · rw [grp_len hT q (h ▸ .head _)]; decide
    · rw [grp_len hT q (.tail _ h)]; decide
    · rw [grp_lL q h]; decide
    · rw [grp_lL q h]; decide
  refine CallOk.use (growH w mean mg mb f.x f.dx f.ra R n f.dob f.r f.rt (rowN f.r.limN i) _ ok.hdx ok.hdo ht ok.ho hX (row_sum _ hi) (rowN_pos _ i) (row_len _ hi) hW) B' F2 X' (newsSub N2 ?_) T' rfl (by ktr_room) (by ktr_units) ?_
  · intro p hp
    simp only [List.mem_cons, List.mem_append, List.cons_append] at hp ⊢
    rcases hp with h | h | h | h | h | h | h | (h | h | h) | h | h | h | h | h <;> simp only [h, true_or, or_true]
  intro r1 nw1 h1 tk1 F3 N3 K1 hzz
  refine hideG ?_; intro HP back; obtain ⟨t', R', n', D, vs, nn, ht', hX', rfl, hs, hD, rfl⟩ := hzz; refine back ?_; clear back HP
  clear F2 N2
  have RI := rowIs (limN_mono ok.ho) (i + 1) (by omega)
  have hsl := row_sum f.r.limN hi
  have hs2 : IntsAre vs ((rowN f.r.limN (i + 1)).reverse.map fun (k : Nat) => (k : Int)) := hs
  rw [RI.eq, List.reverse_cons, List.map_append] at hs2
  refine hideG ?_; intro HP back; obtain ⟨vs', tl, rfl, hs'⟩ := ints_last hs2; refine back ?_; clear back HP
  have hvl : vs'.length ≤ 1000 := by
    rw [hs'.length, List.length_map, List.length_reverse]
    exact Nat.le_trans (len_le_sum (rowN_pos _ _)) (by rw [rowN_sum]; omega)
  have N4 : News gh L h1 ((I, itR it jt) :: (D, listOf (vs' ++ [Value.int (lastN f.r.limN (i + 1) : Int) tl]).toArray nn) :: bodyL f L R' n' t' ps ex IL BL rn wn oL oR) := newsSub N3 (fun p hp => by
    simp only [List.mem_cons, List.mem_append, List.cons_append] at hp ⊢
    rcases hp with h | h | h | h | h | h | h | h | h | h | h | h | h | h | h | h <;> simp only [h, true_or, or_true])
  clear N3
  (try dsimp only)
  repeat' (first | (k_unfold; (try dsimp only)) | ((fail_if_success (with_reducible show wpAny _ _ (subscriptTail _ _ _ _) _ _ _)); first | walk1 | (dsimp only; walk1)))
  with_reducible rename Fr _ _ _ _ => F5
  with_reducible rename News _ _ _ _ => N5
  refine item_last ⟨_, (N5 _ (.tail _ (.head _))).1, rfl, _, rfl⟩ hvl ?_
  (try dsimp only)
  have N6 : News gh L _ (((I, itR it jt) :: (D, listOf (vs' ++ [Value.int (lastN f.r.limN (i + 1) : Int) tl]).toArray nn) :: (f.ro, listOf (lIts IL).toArray rn) :: (f.wi, listOf (lIts BL).toArray wn) :: [(f.la, listOf f.lv.toArray f.ln)]) ++ (L + 1 + 1, oL) :: (L + 1, oR) :: restH f R' n' t' ps ex IL BL) := N5
  refine stCNk F5 N6 rfl dL (apOr ?_) (apOr ?_) ?_
  · intro p hp
    refine .inr fun v e => ?_
    simp only [List.mem_cons, List.not_mem_nil, or_false] at hp
    rcases hp with rfl | rfl | rfl | rfl | rfl <;> cases e
  · intro p hp
    rcases List.mem_cons.mp hp with rfl | hp
    · exact .inl (Nat.ne_of_lt (Nat.lt_succ_self _))
    · exact .inr (row_nocell ok.hdo ht' hT p hp)
  intro h7 oL2 F7 N7 dL2
  exact nx mean mg mb gh L fa cd _ I it jt RR _ _ ⟨X', T', B'⟩ F7 N7 G (.mk R' n' IL BL rn wn t' ps ex oL2 oR D _ nn ht' hT hX' hI hB ⟨dR, ⟨_, dL2⟩, rfl, rfl, rfl, rfl⟩ ⟨_, rfl⟩ rfl hs ⟨_, dL2⟩ rfl)
end Mine
end
-- E13
section
open PySem PySem.W PyProof.Rows PySem.Calls PySem.Spec
namespace Mine
theorem off19 : True := by
  w_top off
  k_with_none
  exact trivial
set_option maxRecDepth 100000
set_option maxHeartbeats 4000000
theorem fillE13 : (Challenge.rw_re0104_02, hd.heap_1) = (Challenge.rw_re0104_02, hd.heap_1) := by
  k_fill
  rfl
abbrev boolsV (bs : List Bool) : List Value := bs.map Value.bool
theorem allLt_mem {d : Addr} {l : Ledg} (h : AllLt d l) : ∀ q ∈ l, q.1 < d := by
  induction l with
  | nil => intro q hq; cases hq
  | cons p r ih =>
    intro q hq
    have h1 : @LT.lt Nat _ p.1 d ∧ AllLt d r := h
    rcases List.mem_cons.mp hq with e | hq
    · rw [e]; exact h1.1
    · exact ih h1.2 q hq
theorem small_i : ∀ i : Nat, i < 15 → Builtin.Range.small 1 (1 + (i : Int) + 1) 1 = true := by decide +kernel
/-- the first answers at a heap -/
def wl (f : Nat → Nat) (h k : Nat) : List Bool := (List.range k).map fun j => decide (lastN f h ≤ j)
theorem wl_one {f : Nat → Nat} {h : Nat} (p : 1 ≤ lastN f h) : wl f h 1 = [false] := by
  show [decide (lastN f h ≤ 0)] = [false]
  rw [decide_eq_false (by omega)]
theorem wl_succ (f : Nat → Nat) (h k : Nat) : wl f h (k + 1) = wl f h k ++ [decide (lastN f h ≤ k)] := by
  unfold wl
  rw [List.range_succ, List.map_append]; rfl
theorem wl_len (f : Nat → Nat) (h k : Nat) : (wl f h k).length = k := by unfold wl; rw [List.length_map, List.length_range]
/-- who wins at this heap is told -/
inductive Mined (f : Fix) (i : Nat) (L : Addr) (m : Str → Option Value) (news : Ledg) : Prop
  | mk (R : List Part) (n : Nat) (IL BL : List LI) (rn wn : Nat) (t : Ledg) (ps : Array Value) (ex : Ledg) (oL oR : Obj) (D : Addr) (vs : List Value) (nn : Nat) (M : Addr) (mn : Nat) (ht : Tabs t) (hT : Tab 129 19 qLen ps ex) (hX : rX R = (rowN f.r.limN (i + 1)).reverse.map xs) (hI : RowsAre f.r i IL) (hB : WinsAre f.r i BL) (nm : Names f L oL oR m)
    (hh : ∃ t, m (Str.ofString "heap") = some (.int (1 + (i : Int)) t)) (es : m (Str.ofString "sizes") = some (.ref D)) (em : m (Str.ofString "mine") = some (.ref M)) (hs : IntsAre vs ((rowN f.r.limN (i + 1)).reverse.map fun (k : Nat) => (k : Int))) (hl : ∃ t, oL.data = .cell (some (.int (lastN f.r.limN (i + 1) : Int) t)))
    (hn : news = (M, listOf (boolsV (winsN f.r.limN (i + 1))).toArray mn) :: (D, listOf vs.toArray nn) :: bodyL f L R n t ps ex IL BL rn wn oL oR)
theorem pm (w : World) (f : Fix) (i : Nat) (ok : f.Ok) (hi : i < 15) (next : BStretch w 4 f i (Mined f i)) : BStretch w 2 f i (Grown f i) := by
  unfold BStretch
  refine' atLaw_intro ?k6 ?_; (case k6 => k_is)
  refine' nextUse next ?k7 ?_; (case k7 => k_is)
  intro nx mean mg mb gh L fa cd s I0 it jt RR m news CX F N G hzz
  refine hideG ?_; intro HP back; obtain ⟨R, n, IL, BL, rn, wn, t, ps, ex, oL, oR, D, vs, nn, ht, hT, hX, hI, hB, nm, ⟨th, eh⟩, es, hs, ⟨tl, dL⟩, rfl⟩ := hzz; refine back ?_; clear back HP
  refine hideG ?_; intro HP back; obtain ⟨dR, ⟨q, dL'⟩, e1, e2, e3, e4⟩ := nm; refine back ?_; clear back HP
  obtain ⟨X', T', B'⟩ := CX
  dsimp only [forBody, List.drop] at nx ⊢
  (try k_fold)
  rw [cn6 e1 e2 e3 e4 eh es] at F
  repeat' (first | (k_unfold; (try dsimp only)) | ((fail_if_success (with_reducible show wpAny _ _ (exec (Stmt.For _ _ _ _ _) _) _ _ _)); first | walk1 | (dsimp only; walk1)))
  with_reducible rename Fr _ _ _ _ => F2
  with_reducible rename News _ _ _ _ => N2
  obtain ⟨M, hM⟩ := headOf N2
  subst hM
  have hMr : ∀ p ∈ (I0, itR it jt) :: (D, listOf vs.toArray nn) :: bodyL f L R n t ps ex IL BL rn wn oL oR, p.1 ≠ M := by
    rename I0 < M ∧ _ => lM
    exact fun p hp => Nat.ne_of_lt (allLt_mem (l := (I0, itR it jt) :: (D, listOf vs.toArray nn) :: bodyL f L R n t ps ex IL BL rn wn oL oR) lM p hp)
  refine For_G (h₀ := gh) ?_
  repeat' (first | (k_unfold; (try dsimp only)) | ((fail_if_success (with_reducible show wpAny _ _ (pyIter _) _ _ _)); first | walk1 | (dsimp only; walk1)))
  with_reducible rename Fr _ _ _ _ => F3
  with_reducible rename News _ _ _ _ => N3
  with_reducible rename IsRange _ _ _ _ _ _ _ _ => R3
  have RI := rowIs (limN_mono ok.ho) (i + 1) (by omega)
  generalize hrest : (I0, itR it jt) :: (D, listOf vs.toArray nn) :: bodyL f L R n t ps ex IL BL rn wn oL oR = rest at *
  have rI0 : (I0, itR it jt) ∈ rest := hrest ▸ .head _
  have rwi : (f.wi, listOf (lIts BL).toArray wn) ∈ rest := hrest ▸ .tail _ (.tail _ (.tail _ (.head _)))
  have rla : (f.la, listOf f.lv.toArray f.ln) ∈ rest := hrest ▸ .tail _ (.tail _ (.tail _ (.tail _ (.head _))))
  have rBL : ∀ q ∈ lLed BL, q ∈ rest := fun q hq => by
    rw [← hrest]
    simp only [List.mem_cons, List.mem_append]
    simp only [hq, or_true]
  refine iter_G (n := i + 1) rfl rfl rfl R3 (small_i i hi) (by unfold Builtin.Range.rangeSize; simp; omega) F3 N3 G (fun k m1 nw => m1 (Str.ofString "limits") = some (.ref f.la) ∧ m1 (Str.ofString "row") = some (.ref f.x) ∧ m1 (Str.ofString "rows") = some (.ref f.ro) ∧ m1 (Str.ofString "wins") = some (.ref f.wi) ∧ m1 (Str.ofString "heap") = some (.int (1 + (i : Int)) th) ∧ m1 (Str.ofString "sizes") = some (.ref D) ∧ m1 (Str.ofString "mine") = some (.ref M) ∧
    ∃ mn, nw = (M, listOf (boolsV (wl f.r.limN (i + 1) (k + 1))).toArray mn) :: rest) ⟨rfl, rfl, rfl, rfl, rfl, rfl, rfl, 0, by rw [wl_one RI.pos]; rfl⟩ ?_ ?_
  · intro h5 tk5 gs5 m5 nw5 F5 N5 G5 hzz
    refine hideG ?_; intro HP back; obtain ⟨f1, f2, f3, f4, f5, f6, f7, mn, rfl⟩ := hzz; refine back ?_; clear back HP
    clear F3 N3
    dsimp only
    refine nx mean mg mb gh L fa cd _ I0 it jt RR m5 ((M, listOf (boolsV (winsN f.r.limN (i + 1))).toArray mn) :: (D, listOf vs.toArray nn) :: bodyL f L R n t ps ex IL BL rn wn oL oR) ⟨X', T', B'⟩ F5 (newsSub N5 ?_) G5 (.mk R n IL BL rn wn t ps ex oL oR D vs nn M mn ht hT hX hI hB ⟨dR, ⟨_, dL⟩, f1, f2, f3, f4⟩ ⟨_, f5⟩ f6 f7 hs ⟨_, dL⟩ rfl)
    intro p hp
    rw [← hrest]
    simp only [List.mem_cons] at hp ⊢
    rcases hp with h | h | h
    · simp only [h, true_or, or_true]
    · exact .inl h
    · simp only [h, or_true]
  · intro I2 k m1 nw1 t5 h5 tk5 gs5 hk hzz off F5 N5 G5
    refine hideG ?_; intro HP back; obtain ⟨f1, f2, f3, f4, f5, f6, f7, mn, rfl⟩ := hzz; refine back ?_; clear back HP
    clear F3 N3
    rw [cn7 f1 f2 f3 f4 f5 f6 f7] at F5
    repeat' (first | (k_unfold; (try dsimp only)) | ((fail_if_success (with_reducible show wpAny _ _ (subscriptTail _ _ _ _) _ _ _)); first | walk1 | (dsimp only; walk1)))
    with_reducible rename Fr _ _ _ _ => F6
    with_reducible rename News _ _ _ _ => N6
    have hj : i - k < BL.length := by rw [hB.1]; omega
    have hjb : (BL[i - k].at_, listOf BL[i - k].vs.toArray BL[i - k].n) ∈ rest := rBL _ (List.mem_map.mpr ⟨BL[i - k], List.getElem_mem _, rfl⟩)
    have hjv := hB.2 (i - k) BL[i - k] (List.getElem?_eq_getElem hj)
    refine item_at (j := i - k) (v := .ref BL[i - k].at_) ⟨_, (N6 _ (.tail _ (.tail _ rwi))).1, rfl, _, rfl⟩ (by omega) (by omega) (by rw [List.getElem?_map, List.getElem?_eq_getElem hj]; rfl) ?_
    (try dsimp only)
    repeat' (first | (k_unfold; (try dsimp only)) | ((fail_if_success (with_reducible show wpAny _ _ (subscriptTail _ _ _ _) _ _ _)); first | walk1 | (dsimp only; walk1)))
    with_reducible rename Fr _ _ _ _ => F7
    with_reducible rename News _ _ _ _ => N7
    obtain ⟨tlm, hlm⟩ := ok.hl.get (k + 1) (f.r.limN (k + 1) : Int) (by rw [List.getElem?_map, List.getElem?_range (by omega)]; rfl)
    refine item_at (j := k + 1) ⟨_, (N7 _ (.tail _ (.tail _ rla))).1, rfl, _, rfl⟩ (by omega) (by omega) hlm ?_
    (try dsimp only)
    repeat' (first | (k_unfold; (try dsimp only)) | ((fail_if_success (with_reducible show wpAny _ _ (subscriptTail _ _ _ _) _ _ _)); first | walk1 | (dsimp only; walk1)))
    with_reducible rename Fr _ _ _ _ => F8
    with_reducible rename News _ _ _ _ => N8
    refine item_at (j := min (i - k) (f.r.limN (k + 1))) (v := .bool (decide (lastN f.r.limN (i - k) ≤ min (i - k) (f.r.limN (k + 1))))) ⟨_, (N8 _ (.tail _ (.tail _ hjb))).1, rfl, _, rfl⟩ (by split <;> omega) (by omega) ?_ ?_
    · rw [hjv, winsN, List.map_map, List.getElem?_map, List.getElem?_range (by omega)]; rfl
    (try dsimp only)
    repeat' (first | (k_unfold; (try dsimp only)) | ((fail_if_success (with_reducible show wpAny _ _ (subscriptTail _ _ _ _) _ _ _)); first | walk1 | (dsimp only; walk1)))
    with_reducible rename Fr _ _ _ _ => F9
    with_reducible rename News _ _ _ _ => N9
    have eM : boolsV (wl f.r.limN (i + 1) (k + 1)) = boolsV (wl f.r.limN (i + 1) k) ++ [.bool (decide (lastN f.r.limN (i + 1) ≤ k))] := by
      unfold boolsV
      rw [wl_succ, List.map_append]; rfl
    refine item_last (vs := boolsV (wl f.r.limN (i + 1) k)) (v := .bool (decide (lastN f.r.limN (i + 1) ≤ k))) (by rw [← eM]; exact ⟨_, (N9 _ (.tail _ (.head _))).1, rfl, _, rfl⟩) (by rw [List.length_map, wl_len]; omega) ?_
    (try dsimp only)
    repeat' (first | (k_unfold; (try dsimp only)) | ((fail_if_success (with_reducible show wpAny _ _ (call (Value.builtin "list.append") _) _ _ _)); first | walk1 | (dsimp only; walk1)))
    · with_reducible rename Fr _ _ _ _ => F10
      with_reducible rename News _ _ _ _ => N10
      with_reducible rename _ ≤ k => hc
      have eB : decide (lastN f.r.limN (i + 1) ≤ k) = decide (lastN f.r.limN (i + 1) ≤ k + 1) := by rw [decide_eq_true hc, decide_eq_true (Nat.le_succ_of_le hc)]
      rw [eB]
      have hS : ∀ p ∈ (I2, itR (1 + ((k + 1 : Nat) : Int)) (((i + 1 : Nat) : Int) - ((k + 1 : Nat) : Int))) :: rest, p.1 ≠ M := fun p hp => by
        rcases List.mem_cons.mp hp with rfl | hp
        · exact Ne.symm (off _ (.head _))
        · exact hMr p hp
      have N11 := newsSub (news := (M, listOf (boolsV (wl f.r.limN (i + 1) (k + 1))).toArray mn) :: (I2, itR (1 + ((k + 1 : Nat) : Int)) (((i + 1 : Nat) : Int) - ((k + 1 : Nat) : Int))) :: rest) N10 (fun p hp => by
        simp only [List.mem_cons] at hp ⊢
        rcases hp with h | h | h <;> simp only [h, true_or, or_true])
      refine append_K F10 N11 (Upd.head hS) ?_ (by rw [List.size_toArray, List.length_map, wl_len, sizeLine_eq]; omega)
      intro h12 F12 N12
      rw [List.push_toArray] at N12
      have eP : boolsV (wl f.r.limN (i + 1) (k + 1)) ++ [.bool (decide (lastN f.r.limN (i + 1) ≤ k + 1))] = boolsV (wl f.r.limN (i + 1) (k + 1 + 1)) := by
        unfold boolsV
        rw [wl_succ _ _ (k + 1), List.map_append]; rfl
      rw [eP] at N12
      clear F10 N10 N11
      (try dsimp only)
      repeat' ((fail_if_success (with_reducible show ForStepG _ _ _ _ _ _ _ _)); first | (k_unfold; (try dsimp only)) | (first | walk1 | (dsimp only; walk1)))
      refine ⟨rfl, h12, _, gs5, _, (M, listOf (boolsV (wl f.r.limN (i + 1) (k + 1 + 1))).toArray (mn + 1)) :: rest, rfl, F12, newsSub N12 ?_, G5, ?_, rfl, rfl, rfl, rfl, rfl, rfl, rfl, mn + 1, rfl⟩
      · intro p hp
        simp only [List.mem_cons] at hp ⊢
        rcases hp with h | h | h <;> simp only [h, true_or, or_true]
      · intro p hp
        rcases List.mem_cons.mp hp with rfl | hp
        · exact off (M, listOf (boolsV (wl f.r.limN (i + 1) (k + 1))).toArray mn) (.head _)
        · exact off p (.tail _ hp)
    · with_reducible rename Fr _ _ _ _ => F10
      with_reducible rename News _ _ _ _ => N10
      with_reducible rename ¬ _ ≤ k => hc
      have eB : (!decide (lastN f.r.limN (i - k) ≤ min (i - k) (f.r.limN (k + 1)))) = decide (lastN f.r.limN (i + 1) ≤ k + 1) := by
        have z := mine_step (limN_mono ok.ho) (h := i + 1) (t := k + 1) (by omega) (by omega)
        rw [show i + 1 - (k + 1) = i - k by omega, show k + 1 - 1 = k from rfl, decide_eq_false hc, Bool.false_or] at z
        exact z.symm
      rw [eB]
      have hS : ∀ p ∈ (I2, itR (1 + ((k + 1 : Nat) : Int)) (((i + 1 : Nat) : Int) - ((k + 1 : Nat) : Int))) :: rest, p.1 ≠ M := fun p hp => by
        rcases List.mem_cons.mp hp with rfl | hp
        · exact Ne.symm (off _ (.head _))
        · exact hMr p hp
      have N11 := newsSub (news := (M, listOf (boolsV (wl f.r.limN (i + 1) (k + 1))).toArray mn) :: (I2, itR (1 + ((k + 1 : Nat) : Int)) (((i + 1 : Nat) : Int) - ((k + 1 : Nat) : Int))) :: rest) N10 (fun p hp => by
        simp only [List.mem_cons] at hp ⊢
        rcases hp with h | h | h <;> simp only [h, true_or, or_true])
      refine append_K F10 N11 (Upd.head hS) ?_ (by rw [List.size_toArray, List.length_map, wl_len, sizeLine_eq]; omega)
      intro h12 F12 N12
      rw [List.push_toArray] at N12
      have eP : boolsV (wl f.r.limN (i + 1) (k + 1)) ++ [.bool (decide (lastN f.r.limN (i + 1) ≤ k + 1))] = boolsV (wl f.r.limN (i + 1) (k + 1 + 1)) := by
        unfold boolsV
        rw [wl_succ _ _ (k + 1), List.map_append]; rfl
      rw [eP] at N12
      clear F10 N10 N11
      (try dsimp only)
      repeat' ((fail_if_success (with_reducible show ForStepG _ _ _ _ _ _ _ _)); first | (k_unfold; (try dsimp only)) | (first | walk1 | (dsimp only; walk1)))
      refine ⟨rfl, h12, _, gs5, _, (M, listOf (boolsV (wl f.r.limN (i + 1) (k + 1 + 1))).toArray (mn + 1)) :: rest, rfl, F12, newsSub N12 ?_, G5, ?_, rfl, rfl, rfl, rfl, rfl, rfl, rfl, mn + 1, rfl⟩
      · intro p hp
        simp only [List.mem_cons] at hp ⊢
        rcases hp with h | h | h <;> simp only [h, true_or, or_true]
      · intro p hp
        rcases List.mem_cons.mp hp with rfl | hp
        · exact off (M, listOf (boolsV (wl f.r.limN (i + 1) (k + 1))).toArray mn) (.head _)
        · exact off p (.tail _ hp)
end Mine
end
-- E14
section
open PySem PySem.W PyProof.Rows PySem.Calls PySem.Spec
namespace Mine
theorem off20 : True := by
  w_top off
  k_with_none
  exact trivial
set_option maxRecDepth 100000
set_option maxHeartbeats 4000000
theorem fillE14 : (Challenge.rw_re0104_02, hd.heap_1) = (Challenge.rw_re0104_02, hd.heap_1) := by
  k_fill
  rfl
theorem small_0 : ∀ i : Nat, i < 15 → Builtin.Range.small 0 (1 + (i : Int) + 1) 1 = true := by decide +kernel
theorem pn (w : World) (f : Fix) (i : Nat) (ok : f.Ok) (hi : i < 15) (next : BStretch w 5 f i (Mined f i)) : BStretch w 4 f i (Mined f i) := by
  unfold BStretch
  refine' atLaw_intro ?k6 ?_; (case k6 => k_is)
  refine' nextUse next ?k7 ?_; (case k7 => k_is)
  intro nx mean mg mb gh L fa cd s I0 it jt RR m news CX F N G hzz
  refine hideG ?_; intro HP back; obtain ⟨R, n, IL, BL, rn, wn, t, ps, ex, oL, oR, D, vs, nn, M, mn, ht, hT, hX, hI, hB, nm, ⟨th, eh⟩, es, em, hs, ⟨tl, dL⟩, rfl⟩ := hzz; refine back ?_; clear back HP
  refine hideG ?_; intro HP back; obtain ⟨dR, ⟨q, dL'⟩, e1, e2, e3, e4⟩ := nm; refine back ?_; clear back HP
  obtain ⟨X', T', B'⟩ := CX
  dsimp only [forBody, List.drop] at nx ⊢
  (try k_fold)
  rw [cn7 e1 e2 e3 e4 eh es em] at F
  repeat' (first | (k_unfold; (try dsimp only)) | ((fail_if_success (with_reducible show wpAny _ _ (eval (Expr.ListComp _ _ _ _) _) _ _ _)); first | walk1 | (dsimp only; walk1)))
  with_reducible rename Fr _ _ _ _ => F2
  with_reducible rename News _ _ _ _ => N2
  refine LCg.ListComp_U (F₀ := F2) (by rfl) (by decide) (by rfl) (by decide) (by rfl) ?_
  repeat' (first | (k_unfold; (try dsimp only)) | ((fail_if_success (with_reducible show LCg.CompSrc _ _ _ _ _ _ _ _ _ _ _ _ _ _)); first | walk1 | (dsimp only; walk1)))
  with_reducible rename Fr _ _ _ _ => F3
  with_reducible rename News _ _ _ _ => N3
  refine LCg.CompSrc.range (n := i + 2) rfl F3 N3 (by assumption) (small_0 i hi) (by unfold Builtin.Range.rangeSize; simp; omega) (by rw [sizeLine_eq]; omega) ?_
  intro g9
  refine comp_ind (i + 2) (fun k ys nw => ys = boolsV (wl f.r.limN (i + 1) k) ∧ nw = (I0, itR it jt) :: (M, listOf (boolsV (winsN f.r.limN (i + 1))).toArray mn) :: (D, listOf vs.toArray nn) :: bodyL f L R n t ps ex IL BL rn wn oL oR) ?_ ?_ (i + 2) 0 [] _ (Nat.zero_add _) ⟨rfl, rfl⟩
  · rintro ys nw ⟨rfl, rfl⟩
    intro D9 h9 tk9 F9 N9 o9
    clear F3 N3
    (try dsimp only)
    repeat' (first | (k_unfold; (try dsimp only)) | ((fail_if_success (with_reducible show wpAny _ _ (compareOp _ _ _) _ _ _)); first | walk1 | (dsimp only; walk1)))
    refine ne_bools (bs := winsN f.r.limN (i + 1)) ⟨_, (N9 _ (.tail _ (.tail _ (.head _)))).1, rfl, _, rfl⟩ ⟨_, (N9 _ (.head _)).1, rfl, _, rfl⟩ (by first | units_room | exact Nat.le_of_ble_eq_true rfl) ?_
    (try dsimp only)
    repeat' (first | (k_unfold; (try dsimp only)) | ((fail_if_success (with_reducible show wpAny _ _ (execs (Stmt.If _ _ _ _ :: _) _) _ _ _)); first | walk1 | (dsimp only; walk1)))
    exact nx mean mg mb gh L fa cd _ I0 it jt RR _ _ ⟨X', T', B'⟩ F9 (newsSub N9 (fun p hp => .tail _ hp)) G (.mk R n IL BL rn wn t ps ex oL oR D vs nn M mn ht hT hX hI hB ⟨dR, ⟨_, dL⟩, rfl, rfl, rfl, rfl⟩ ⟨_, rfl⟩ rfl rfl hs ⟨_, dL⟩ rfl)
  · rintro k ys nw hk ⟨rfl, rfl⟩ v I oI C oC D2 m2 h7 tk7 E7 ⟨tv, rfl⟩ hC hm2 F7 N7 off7 ne7
    clear F3 N3
    repeat' (first | (k_unfold; (try dsimp only)) | ((fail_if_success (with_reducible show LCg.CompEnd _ _ _ _ _ _ _ _ _ _ _ _ _ _)); first | walk1 | (dsimp only; walk1)))
    refine LCg.CompEnd.intro F7 N7 ((I0, itR it jt) :: (M, listOf (boolsV (winsN f.r.limN (i + 1))).toArray mn) :: (D, listOf vs.toArray nn) :: bodyL f L R n t ps ex IL BL rn wn oL oR) (fun _ h => h) off7 trivial ⟨?_, rfl⟩
    have e : decide (0 + (k : Int) ≥ (lastN f.r.limN (i + 1) : Int)) = decide (lastN f.r.limN (i + 1) ≤ k) := decide_eq_decide.mpr (by omega)
    rw [e]
    unfold boolsV
    rw [wl_succ, List.map_append]; rfl
end Mine
end
-- E15
section
open PySem PySem.W PyProof.Rows PySem.Calls PySem.Spec
namespace Mine
theorem off21 : True := by
  w_top off
  k_with_none
  exact trivial
set_option maxRecDepth 100000
set_option maxHeartbeats 4000000
theorem fillE15 : (Challenge.rw_re0104_02, hd.heap_1) = (Challenge.rw_re0104_02, hd.heap_1) := by
  k_fill
  rfl
theorem po (w : World) (f : Fix) (i : Nat) (ok : f.Ok) (hi : i < 15) (next : BStretch w 6 f i (Mined f i)) : BStretch w 5 f i (Mined f i) := by
  unfold BStretch
  refine' atLaw_intro ?k6 ?_; (case k6 => k_is)
  refine' nextUse next ?k7 ?_; (case k7 => k_is)
  intro nx mean mg mb gh L fa cd s I0 it jt RR m news CX F N G hzz
  refine hideG ?_; intro HP back; obtain ⟨R, n, IL, BL, rn, wn, t, ps, ex, oL, oR, D, vs, nn, M, mn, ht, hT, hX, hI, hB, nm, ⟨th, eh⟩, es, em, hs, ⟨tl, dL⟩, rfl⟩ := hzz; refine back ?_; clear back HP
  refine hideG ?_; intro HP back; obtain ⟨dR, ⟨q, dL'⟩, e1, e2, e3, e4⟩ := nm; refine back ?_; clear back HP
  obtain ⟨X', T', B'⟩ := CX
  dsimp only [forBody, List.drop] at nx ⊢
  (try k_fold)
  rw [cn7 e1 e2 e3 e4 eh es em] at F
  repeat' (first | (k_unfold; (try dsimp only)) | ((fail_if_success (with_reducible show wpAny _ _ (call (Value.builtin "len") _) _ _ _)); first | walk1 | (dsimp only; walk1)))
  with_reducible rename Fr _ _ _ _ => F2
  with_reducible rename News _ _ _ _ => N2
  have N3 : News gh L _ ((((112, tabObj ps) :: ex) ++ (f.x, accObj f.dx (rIts R).toArray n) :: (f.dx, f.dob) :: rLed R) ++ ((I0, itR it jt) :: (M, listOf (boolsV (winsN f.r.limN (i + 1))).toArray mn) :: (D, listOf vs.toArray nn) :: (f.ro, listOf (lIts IL).toArray rn) :: (f.wi, listOf (lIts BL).toArray wn) :: (f.la, listOf f.lv.toArray f.ln) :: (L + 1 + 1, oL) :: (L + 1, oR) :: (f.ra, ruleObj f.r f.rt) :: (t ++ (lLed IL ++ lLed BL)))) := newsSub N2 (fun p hp => by
    simp only [List.mem_cons, List.mem_append, List.cons_append] at hp ⊢
    rcases hp with h | (h | h | h | h) | h | h | h | h | h | h | h | h | h | h | h | h <;> simp only [h, true_or, or_true])
  clear N2
  have hRl : R.length ≤ 15 := by
    have e := congrArg List.length hX
    rw [rX_len, List.length_map, List.length_reverse] at e
    rw [e]
    exact Nat.le_trans (len_le_sum (rowN_pos _ _)) (by rw [rowN_sum]; omega)
  have hlR : ∀ p ∈ R, p.a.length < 100 ∧ p.b.length < 100 := fun p hp => by
    have hmem : p.a ++ p.b ∈ rX R := List.mem_map.mpr ⟨p, hp, rfl⟩
    rw [hX] at hmem
    obtain ⟨c, hc1, hc2⟩ := List.mem_map.mp hmem
    have hcs : c ≤ 15 := by
      have z := mem_le_sum (List.mem_reverse.mp hc1)
      rw [rowN_sum] at z
      omega
    have hcl := congrArg PySem.Str.length hc2
    rw [xs_len, Str.length_append] at hcl
    omega
  refine len_K F2 X' (accInst (N3 _ (List.mem_append_left _ (List.mem_append_right _ (.head _)))).1 (N3 _ (List.mem_append_left _ (List.mem_append_right _ (.tail _ (.head _))))).1) (k_flen _) (k_flen_t _) ?_
  refine CallOkG.use (lenH w mean mg mb f.x f.dx R n f.dob _ ok.hdo hT (by omega) hlR ?_) B' F2 X' N3 T' rfl (by ktr_room) (by ktr_units) G ?_
  · intro q hq
    simp only [List.mem_cons, List.mem_append] at hq
    rcases hq with rfl | rfl | rfl | rfl | rfl | rfl | rfl | rfl | rfl | h | h | h
    · exact .inr grp_it
    · exact .inr grp_list
    · exact .inr grp_list
    · exact .inr grp_list
    · exact .inr grp_list
    · exact .inr grp_list
    · exact .inr (grp_cell dL)
    · exact .inr (grp_cell dR)
    · exact .inl grp_rule
    · exact .inl (grp_tabs ht q h)
    · exact .inr (grp_lL q h)
    · exact .inr (grp_lL q h)
  intro r1 nw1 h1 tk1 gs1 F3 N4 K1 G1 hzz
  refine hideG ?_; intro HP back; obtain ⟨ps', ex', tz, hT', rfl, -, rfl⟩ := hzz; refine back ?_; clear back HP
  clear F2 N3
  rw [rSum_is hX, rowN_sum]
  refine ⟨⟨by omega, by omega⟩, ?_⟩
  have N5 : News gh L h1 ((I0, itR it jt) :: (M, listOf (boolsV (winsN f.r.limN (i + 1))).toArray mn) :: (D, listOf vs.toArray nn) :: bodyL f L R n t ps' ex' IL BL rn wn oL oR) := newsSub N4 (fun p hp => by
    simp only [List.mem_cons, List.mem_append, List.cons_append] at hp ⊢
    rcases hp with h | h | h | h | h | h | h | h | h | h | h | h | h | h | h | h | h <;> simp only [h, true_or, or_true])
  clear N4
  (try dsimp only)
  repeat' (first | (k_unfold; (try dsimp only)) | ((fail_if_success (with_reducible show wpAny _ _ (subscriptTail _ _ _ _) _ _ _)); first | walk1 | (dsimp only; walk1)))
  · exfalso
    with_reducible rename _ ≠ _ => hne
    omega
  have RI := rowIs (limN_mono ok.ho) (i + 1) (by omega)
  have hj : i + 1 - lastN f.r.limN (i + 1) < IL.length := by rw [hI.1]; have := RI.pos; omega
  have hle := RI.le
  have hjb : (IL[i + 1 - lastN f.r.limN (i + 1)].at_, listOf IL[i + 1 - lastN f.r.limN (i + 1)].vs.toArray IL[i + 1 - lastN f.r.limN (i + 1)].n) ∈ lLed IL := List.mem_map.mpr ⟨_, List.getElem_mem _, rfl⟩
  have hjv := hI.2 (i + 1 - lastN f.r.limN (i + 1)) IL[i + 1 - lastN f.r.limN (i + 1)] (List.getElem?_eq_getElem hj)
  with_reducible rename Fr _ _ _ _ => F6
  with_reducible rename News _ _ _ _ => N6
  refine item_at (j := i + 1 - lastN f.r.limN (i + 1)) (v := .ref IL[i + 1 - lastN f.r.limN (i + 1)].at_) ⟨_, (N6 _ (.tail _ (.tail _ (.tail _ (.head _))))).1, rfl, _, rfl⟩ (by omega) (by omega) (by rw [List.getElem?_map, List.getElem?_eq_getElem hj]; rfl) ?_
  generalize IL[i + 1 - lastN f.r.limN (i + 1)] = jl at *
  (try dsimp only)
  repeat' (first | (k_unfold; (try dsimp only)) | ((fail_if_success (with_reducible show wpAny _ _ (binaryOp _ _ _) _ _ _)); first | walk1 | (dsimp only; walk1)))
  with_reducible rename Fr _ _ _ _ => F7
  with_reducible rename News _ _ _ _ => N7
  have hjm : (jl.at_, listOf jl.vs.toArray jl.n) ∈ (I0, itR it jt) :: (M, listOf (boolsV (winsN f.r.limN (i + 1))).toArray mn) :: (D, listOf vs.toArray nn) :: bodyL f L R n t ps' ex' IL BL rn wn oL oR := by
    simp only [List.mem_cons, List.mem_append]
    simp only [hjb, true_or, or_true]
  refine add_arrays_ints (ms := [(lastN f.r.limN (i + 1) : Int)]) F7 N7 ⟨_, (N7 _ (.tail _ hjm)).1, rfl, _, rfl⟩ ⟨_, (N7 _ (.head _)).1, rfl, _, rfl⟩ hjv (.cons _ _ .nil) ?_ ?_
  · intro h8 F8 N8 hI8
    clear F7
    repeat' (first | (k_unfold; (try dsimp only)) | ((fail_if_success (with_reducible show wpAny _ _ (compareOp _ _ _) _ _ _)); first | walk1 | (dsimp only; walk1)))
    have eq : (rowN f.r.limN (i + 1 - lastN f.r.limN (i + 1))).reverse.map (fun (k : Nat) => (k : Int)) ++ [(lastN f.r.limN (i + 1) : Int)] = (rowN f.r.limN (i + 1)).reverse.map fun (k : Nat) => (k : Int) := by
      rw [RI.eq, List.reverse_cons, List.map_append]; rfl
    refine ke_ne_ints ⟨_, (N8 _ (.head _)).1, rfl, _, rfl⟩ ⟨_, (N8 _ (.tail _ (.tail _ (.tail _ (.tail _ (.head _)))))).1, rfl, _, rfl⟩ hI8 hs (by first | units_room | exact Nat.le_of_ble_eq_true rfl) ?_
    rw [decide_eq_true eq]
    (try dsimp only [Bool.not_true])
    repeat' (first | (k_unfold; (try dsimp only)) | ((fail_if_success (with_reducible show wpAny _ _ (execs (Stmt.Expr _ _ :: _) _) _ _ _)); first | walk1 | (dsimp only; walk1)))
    exact nx mean mg mb gh L fa cd _ I0 it jt RR _ _ ⟨X', T', B'⟩ F8 (newsSub N8 (fun p hp => .tail _ (.tail _ hp))) G1 (.mk R n IL BL rn wn t ps' ex' oL oR D vs nn M mn ht hT' hX hI hB ⟨dR, ⟨_, dL⟩, rfl, rfl, rfl, rfl⟩ ⟨_, rfl⟩ rfl rfl hs ⟨_, dL⟩ rfl)
  · rw [List.length_map, List.length_reverse, List.length_singleton, sizeLine_eq]
    have := len_le_sum (rowN_pos f.r.limN (i + 1 - lastN f.r.limN (i + 1)))
    rw [rowN_sum] at this
    omega
end Mine
end
-- E16
section
open PySem PySem.W PyProof.Rows PySem.Calls PySem.Spec
namespace Mine
theorem off22 : True := by
  w_top off
  k_with_none
  exact trivial
set_option maxRecDepth 100000
set_option maxHeartbeats 4000000
theorem fillE16 : (Challenge.rw_re0104_02, hd.heap_1) = (Challenge.rw_re0104_02, hd.heap_1) := by
  k_fill
  rfl
/-- neither rows nor wins nor an iterator -/
def Plain3 (p : Addr × Obj) : Prop := grp p ≠ 3 ∨ (∃ v, p.2.data = .cell v) ∨ ∃ (vs : List Value) (n : Nat), p.2 = listOf vs.toArray n ∧ ∀ v ∈ vs, ∀ a, v ≠ .ref a
theorem ints_noref {vs : List Value} {ns : List Int} (h : IntsAre vs ns) : ∀ v ∈ vs, ∀ a, v ≠ .ref a := by
  induction h with
  | nil => intro v hv; cases hv
  | cons n t _ ih =>
    intro v hv a
    rcases List.mem_cons.mp hv with rfl | hv
    · intro e; cases e
    · exact ih v hv a
theorem bools_noref {bs : List Bool} : ∀ v ∈ bs.map Value.bool, ∀ a, v ≠ .ref a := fun v hv a => by
  obtain ⟨b, _, rfl⟩ := List.mem_map.mp hv
  intro e; cases e
theorem plain_apart {h₀ h : Heap} {L a : Addr} {news : Ledg} {IL : List LI} {n : Nat} (N : News h₀ L h news) (hI : IL ≠ []) (h1 : (a, listOf (lIts IL).toArray n) ∈ news) {p : Addr × Obj} (h2 : p ∈ news) (hc : Plain3 p) : p.1 ≠ a := by
  intro e
  have so : p.2 = listOf (lIts IL).toArray n := sameObj N h2 h1 e
  rcases hc with hc | ⟨v, hc⟩ | ⟨vs, k, hc, hv⟩
  · exact hc (by rw [show p = (a, listOf (lIts IL).toArray n) from Prod.ext e so]; rfl)
  · rw [so] at hc; cases hc
  · rw [hc] at so
    injection so with _ _ so _
    injection so with so _
    have so' : vs = lIts IL := by simpa using congrArg Array.toList so
    obtain ⟨x, r, rfl⟩ := List.exists_cons_of_ne_nil hI
    exact hv (.ref x.at_) (by rw [so']; exact .head _) x.at_ rfl
theorem plain_it {h₀ h : Heap} {L I : Addr} {news : Ledg} {it jt : Int} (N : News h₀ L h news) (h1 : (I, itR it jt) ∈ news) {p : Addr × Obj} (h2 : p ∈ news) (hc : Plain3 p) : p.1 ≠ I := by
  intro e
  have so : p.2 = itR it jt := sameObj N h2 h1 e
  rcases hc with hc | ⟨v, hc⟩ | ⟨vs, k, hc, hv⟩
  · exact hc (by rw [show p = (I, itR it jt) from Prod.ext e so]; rfl)
  · rw [so] at hc; cases hc
  · rw [hc] at so
    exact absurd (show Value.type "list" = Value.type "range_iterator" from congrArg Obj.cls so) (by decide)
theorem plain_rest {f : Fix} {i : Nat} {L : Addr} {R : List Part} {n : Nat} {t : Ledg} {ps : Array Value} {ex : Ledg} {IL BL : List LI} {oL oR : Obj} {q q2 : Option Value} {D M : Addr} {vs : List Value} {ns : List Int} {bs : List Bool} {nn mn : Nat} (ok : f.Ok) (ht : Tabs t) (hT : Tab 129 19 qLen ps ex) (hI : RowsAre f.r i IL) (hB : WinsAre f.r i BL) (dL : oL.data = .cell q) (dR : oR.data = .cell q2) (hs : IntsAre vs ns) :
    ∀ p ∈ (M, listOf (boolsV bs).toArray mn) :: (D, listOf vs.toArray nn) :: (f.la, listOf f.lv.toArray f.ln) :: (L + 1 + 1, oL) :: (L + 1, oR) :: restH f R n t ps ex IL BL, Plain3 p := by
  intro p hp
  simp only [List.mem_cons, List.mem_append] at hp
  rcases hp with rfl | rfl | rfl | rfl | rfl | rfl | rfl | h | rfl | h | h | h | h | h
  · exact .inr (.inr ⟨_, _, rfl, bools_noref⟩)
  · exact .inr (.inr ⟨_, _, rfl, ints_noref hs⟩)
  · exact .inr (.inr ⟨_, _, rfl, ints_noref ok.hl⟩)
  · exact .inr (.inl ⟨_, dL⟩)
  · exact .inr (.inl ⟨_, dR⟩)
  · exact .inl (by rw [grp_acc]; decide)
  · exact .inl (by rw [grp_dob ok.hdo]; decide)
  · exact .inl (by rw [grp_rL p h]; decide)
  · exact .inl (by rw [grp_rule]; decide)
  · exact .inl (by rw [grp_tabs ht p h]; decide)
  · exact .inl (by rw [grp_len hT p (h ▸ .head _)]; decide)
  · exact .inl (by rw [grp_len hT p (.tail _ h)]; decide)
  · obtain ⟨l, hl, rfl⟩ := List.mem_map.mp h
    obtain ⟨j, hj, e⟩ := List.getElem_of_mem hl
    exact .inr (.inr ⟨_, _, rfl, ints_noref (hI.2 j l (by rw [List.getElem?_eq_getElem hj, e]))⟩)
  · obtain ⟨l, hl, rfl⟩ := List.mem_map.mp h
    obtain ⟨j, hj, e⟩ := List.getElem_of_mem hl
    refine .inr (.inr ⟨_, _, rfl, ?_⟩)
    rw [hB.2 j l (by rw [List.getElem?_eq_getElem hj, e])]
    exact bools_noref
theorem rows_more {r : Rule} {i : Nat} {IL : List LI} {D : Addr} {vs : List Value} {nn : Nat} (h : RowsAre r i IL) (hs : IntsAre vs ((rowN r.limN (i + 1)).reverse.map fun (k : Nat) => (k : Int))) : RowsAre r (i + 1) (IL ++ [⟨D, vs, nn⟩]) := by
  refine ⟨by rw [List.length_append, h.1]; rfl, fun j p hp => ?_⟩
  rcases Nat.lt_or_ge j IL.length with hj | hj
  · rw [List.getElem?_append_left hj] at hp
    exact h.2 j p hp
  · rw [List.getElem?_append_right hj] at hp
    rcases Nat.lt_or_ge (j - IL.length) 1 with h1 | h1
    · rw [show j - IL.length = 0 by omega] at hp
      cases hp
      rw [show j = i + 1 by have := h.1; omega]
      exact hs
    · rw [List.getElem?_eq_none (by simpa using h1)] at hp; cases hp
theorem wins_more {r : Rule} {i : Nat} {BL : List LI} {M : Addr} {mn : Nat} (h : WinsAre r i BL) : WinsAre r (i + 1) (BL ++ [⟨M, boolsV (winsN r.limN (i + 1)), mn⟩]) := by
  refine ⟨by rw [List.length_append, h.1]; rfl, fun j p hp => ?_⟩
  rcases Nat.lt_or_ge j BL.length with hj | hj
  · rw [List.getElem?_append_left hj] at hp
    exact h.2 j p hp
  · rw [List.getElem?_append_right hj] at hp
    rcases Nat.lt_or_ge (j - BL.length) 1 with h1 | h1
    · rw [show j - BL.length = 0 by omega] at hp
      cases hp
      rw [show j = i + 1 by have := h.1; omega]
    · rw [List.getElem?_eq_none (by simpa using h1)] at hp; cases hp
theorem pp (w : World) (f : Fix) (i : Nat) (ok : f.Ok) (hi : i < 15) : BStretch w 6 f i (Mined f i) := by
  unfold BStretch
  refine' atLaw_intro ?k6 ?_; (case k6 => k_is)
  intro mean mg mb gh L fa cd s I0 it jt RR m news CX F N G hzz
  refine hideG ?_; intro HP back; obtain ⟨R, n, IL, BL, rn, wn, t, ps, ex, oL, oR, D, vs, nn, M, mn, ht, hT, hX, hI, hB, nm, ⟨th, eh⟩, es, em, hs, ⟨tl, dL⟩, rfl⟩ := hzz; refine back ?_; clear back HP
  refine hideG ?_; intro HP back; obtain ⟨dR, ⟨q, dL'⟩, e1, e2, e3, e4⟩ := nm; refine back ?_; clear back HP
  obtain ⟨X', T', B'⟩ := CX
  dsimp only [forBody, List.drop]
  (try k_fold)
  rw [cn7 e1 e2 e3 e4 eh es em] at F
  have pl := plain_rest (R := R) (n := n) (D := D) (M := M) (bs := winsN f.r.limN (i + 1)) (nn := nn) (mn := mn) (L := L) ok ht hT hI hB dL dR hs
  have hIn : IL ≠ [] := by intro e; have := hI.1; rw [e] at this; cases this
  have hBn : BL ≠ [] := by intro e; have := hB.1; rw [e] at this; cases this
  generalize hX3 : (M, listOf (boolsV (winsN f.r.limN (i + 1))).toArray mn) :: (D, listOf vs.toArray nn) :: (f.la, listOf f.lv.toArray f.ln) :: (L + 1 + 1, oL) :: (L + 1, oR) :: restH f R n t ps ex IL BL = X3 at pl
  have N1 : News gh L s.heap ((f.ro, listOf (lIts IL).toArray rn) :: (f.wi, listOf (lIts BL).toArray wn) :: (I0, itR it jt) :: X3) := newsSub N (fun p hp => by
    rw [← hX3] at hp
    simp only [List.mem_cons] at hp ⊢
    rcases hp with h | h | h | h | h | h | h | h | h | h | h <;> simp only [h, true_or, or_true])
  clear N
  repeat' (first | (k_unfold; (try dsimp only)) | ((fail_if_success (with_reducible show wpAny _ _ (call (Value.builtin "list.append") _) _ _ _)); first | walk1 | (dsimp only; walk1)))
  with_reducible rename Fr _ _ _ _ => F2
  with_reducible rename News _ _ _ _ => N2
  have listIt : ∀ {its : Array Value} {k : Nat}, listOf its k ≠ itR it jt := fun {its k} e => absurd (show Value.type "list" = Value.type "range_iterator" from congrArg Obj.cls e) (by decide)
  have sR : ∀ p ∈ (f.wi, listOf (lIts BL).toArray wn) :: (I0, itR it jt) :: X3, p.1 ≠ f.ro := fun p hp => by
    rcases List.mem_cons.mp hp with rfl | hp
    · exact Ne.symm ok.hrw
    rcases List.mem_cons.mp hp with rfl | hp
    · exact fun e => listIt (sameObj N2 (p := (f.ro, _)) (q := (I0, itR it jt)) (.head _) (.tail _ (.tail _ (.head _))) e.symm)
    · exact plain_apart N2 hIn (.head _) (.tail _ (.tail _ (.tail _ hp))) (pl p hp)
  refine append_K F2 N2 (Upd.head sR) ?_ (by rw [List.size_toArray, List.length_map, hI.1, sizeLine_eq]; omega)
  intro h8 F8 N8
  rw [List.push_toArray] at N8
  clear F2 N2
  have N9 : News gh L h8 ((f.wi, listOf (lIts BL).toArray wn) :: (f.ro, listOf (lIts IL ++ [Value.ref D]).toArray (rn + 1)) :: (I0, itR it jt) :: X3) := newsSub N8 (fun p hp => by
    simp only [List.mem_cons] at hp ⊢
    rcases hp with h | h | h | h <;> simp only [h, true_or, or_true])
  clear N8
  (try dsimp only)
  repeat' (first | (k_unfold; (try dsimp only)) | ((fail_if_success (with_reducible show wpAny _ _ (call (Value.builtin "list.append") _) _ _ _)); first | walk1 | (dsimp only; walk1)))
  with_reducible rename Fr _ _ _ _ => F10
  with_reducible rename News _ _ _ _ => N10
  have sW : ∀ p ∈ (f.ro, listOf (lIts IL ++ [Value.ref D]).toArray (rn + 1)) :: (I0, itR it jt) :: X3, p.1 ≠ f.wi := fun p hp => by
    rcases List.mem_cons.mp hp with rfl | hp
    · exact ok.hrw
    rcases List.mem_cons.mp hp with rfl | hp
    · exact fun e => listIt (sameObj N10 (p := (f.wi, _)) (q := (I0, itR it jt)) (.head _) (.tail _ (.tail _ (.head _))) e.symm)
    · exact plain_apart N10 hBn (.head _) (.tail _ (.tail _ (.tail _ hp))) (pl p hp)
  have offX : ∀ p ∈ X3, p.1 ≠ I0 := fun p hp => plain_it N10 (.tail _ (.tail _ (.head _))) (.tail _ (.tail _ (.tail _ hp))) (pl p hp)
  have offR : f.ro ≠ I0 := fun e => listIt (sameObj N10 (p := (f.ro, _)) (q := (I0, itR it jt)) (.tail _ (.head _)) (.tail _ (.tail _ (.head _))) e)
  have offW : f.wi ≠ I0 := fun e => listIt (sameObj N10 (p := (f.wi, _)) (q := (I0, itR it jt)) (.head _) (.tail _ (.tail _ (.head _))) e)
  refine append_K F10 N10 (Upd.head sW) ?_ (by rw [List.size_toArray, List.length_map, hB.1, sizeLine_eq]; omega)
  intro h12 F12 N12
  rw [List.push_toArray] at N12
  clear F10 N10
  (try dsimp only)
  repeat' ((fail_if_success (with_reducible show ForStepG _ _ _ _ _ _ _ _)); first | (k_unfold; (try dsimp only)) | (first | walk1 | (dsimp only; walk1)))
  have sub : ∀ p ∈ (f.ro, listOf (lIts (IL ++ [⟨D, vs, nn⟩])).toArray (rn + 1)) :: (f.wi, listOf (lIts (BL ++ [⟨M, boolsV (winsN f.r.limN (i + 1)), mn⟩])).toArray (wn + 1)) :: (f.la, listOf f.lv.toArray f.ln) :: (L + 1 + 1, oL) :: (L + 1, oR) :: restH f R n t ps ex (IL ++ [⟨D, vs, nn⟩]) (BL ++ [⟨M, boolsV (winsN f.r.limN (i + 1)), mn⟩]),
      p = (f.ro, listOf (lIts IL ++ [Value.ref D]).toArray (rn + 1)) ∨ p = (f.wi, listOf (lIts BL ++ [Value.ref M]).toArray (wn + 1)) ∨ p ∈ X3 := fun p hp => by
    rw [← hX3]
    simp only [lIts, lLed, List.map_append, List.map_cons, List.map_nil, List.mem_cons, List.mem_append, List.not_mem_nil, or_false] at hp ⊢
    rcases hp with h | h | h | h | h | h | h | h | h | h | h | h | (h | h) | h | h <;> simp only [h, true_or, or_true]
  refine ⟨rfl, h12, _, s.gens, _, _, rfl, F12, newsSub N12 ?_, G, ?_, .mk R n (IL ++ [⟨D, vs, nn⟩]) (BL ++ [⟨M, boolsV (winsN f.r.limN (i + 1)), mn⟩]) (rn + 1) (wn + 1) t ps ex oL oR ht hT hX (rows_more hI hs) (wins_more hB) ⟨dR, ⟨_, dL⟩, rfl, rfl, rfl, rfl⟩ rfl⟩
  · intro p hp
    rcases List.mem_cons.mp hp with h | hp
    · simp only [h, List.mem_cons, true_or, or_true]
    · rcases sub p hp with h | h | h <;> simp only [h, List.mem_cons, true_or, or_true]
  · intro p hp
    rcases sub p hp with rfl | rfl | h
    · exact offR
    · exact offW
    · exact offX p h
end Mine
end
-- EZ
open PySem PySem.W PyProof.Rows PySem.Calls PySem.Spec
namespace Mine
set_option maxRecDepth 100000
set_option maxHeartbeats 8000000
theorem turnAll (w : World) (f : Fix) (i : Nat) (ok : f.Ok) (hi : i < 15) : BStretch w 0 f i (Start f i) := pg w f i ok hi (pm w f i ok hi (pn w f i ok hi (po w f i ok hi (pp w f i ok hi))))
theorem whole (w : World) : Stretch w 2 After1 := ph2 w (ph3 w (ph4 w (turnAll w)))
end Mine
open Mine
set_option maxRecDepth 100000 in
set_option maxHeartbeats 8000000 in
theorem PySem.Challenge.cw_re0104_02_holds : PySem.Challenge.rw_re0104_02.Holds := by
  refine Mine.hd ?_
  k_fill
  intro w s₀ s₁ mg mb G Y fa o pm cd doc dV kV ho hd hcd hD hmg hg args vals as hpre hlay hrd hwl hlo
  have KX := km_in_of Y
  have hT8 := km_tabs_of Y
  have X := (Ground.X G).1
  have V := (Ground.X G).2
  refine Ground.open G ?_
  intro T B D TE TW
  try (refine guard_noD D (by decide +kernel) ?_; clear D)
  have hT9 : TabsAt [(41,37),(48,44),(116,112)] s₁.heap := List.forall_mem_cons.mpr ⟨⟨codeHd_of_K (c:=41) (P:=37) KX (by kernel_rfl), hT8 37 (by k_mem)⟩, List.forall_mem_cons.mpr ⟨⟨codeHd_of_K (c:=48) (P:=44) KX (by kernel_rfl), hT8 44 (by k_mem)⟩, List.forall_mem_cons.mpr ⟨⟨codeHd_of_K (c:=116) (P:=112) KX (by kernel_rfl), hT8 112 (by k_mem)⟩, fun _ h => nomatch h⟩⟩⟩
  clear hmg
  wrow_args hpre hlay hrd hwl hlo
  all_goals (first | refine callC_kw (enter_call ?_) | refine enter_call ?_; w_top on; refine kn_postT hT9 (fun _ _ => rfl) (by kernel_rfl) ?_; w_call any ho hd hcd hD T F; clear hd; kn_ghosts F T; k_drop; skip)
  with_reducible rename Heap.IsList (ghostOf _ _) _ _ => hLift
  with_reducible rename IntsAre _ _ => hI
  with_reducible rename Fr _ _ _ _ => F
  with_reducible rename News _ _ _ _ => N
  with_reducible rename Below _ _ _ _ => B'
  with_reducible rename Top topProg _ _ _ _ _ => T'
  with_reducible rename Frag.In _ _ => X'
  with_reducible rename Obj.data _ = Data.cell _ => dRr
  revert dRr
  with_reducible rename Obj.data _ = Data.cell _ => dLl
  intro dRr
  have hlen := Nat.le_of_not_lt (fun h => (by assumption : ¬ ((63 : Nat) : Int) < _) (Int.ofNat_lt.mpr h))
  have A := fun ls => atLaw_use (Mine.ph1 w _ _ ls hI hlen (Mine.whole w)) (by k_is)
  refine A _ (ExcName.means s₀.heap) mg mb _ _ fa cd _ _ _ _ _ _ _ _ ⟨X', T', B'⟩ hLift F rfl dLl dRr N (AllBare.of_eq hg) ?_
  intro m h tk gs p1 p2 p3 F2 N2 G2
  exact ⟨rfl, fun b o e => F2.keep b o e, rfl, G2, by walk_at "GrownAll"⟩
