import PyProof.Rows.All
import Wide.All
import OpenK.AllK
import Wide.FinOn
import KE.KState
import KE.KPairComp
import KE.KPairTest
import Lean
import PySem.Challenge.RW_pa0026_01
set_option Elab.async false
open PySem PySem.W PyProof.Rows
namespace Mine
set_option maxRecDepth 100000 in
set_option maxHeartbeats 8000000 in
open_top hd for PySem.Challenge.rw_pa0026_01
end Mine
namespace Mine
open PySem PySem.W PySem.Spec PySem.Calls PyProof.Rows
local macro_rules | `(tactic| walk_at $s:str) => `(tactic| k_extra $s)
section
open PySem PySem.W PySem.Spec PySem.Calls PyProof.Rows
noncomputable abbrev loose0 : List Str := looseW Mine.hd.view_39 [Str.ofString "bytes_types", Str.ofString "a2b_base64", Str.ofString "b2a_base64", Str.ofString "b64encode", Str.ofString "b64decode"]
/-- the addresses of the frames -/
abbrev framesOf (l : List Env) : List Addr := l.filterMap (·.frame)
/-- A call of a def of the text, from any frame of a def: where pre holds of the heap it comes back, every object as it was, and R holds of the answer, the heap before and the heap behind; or, where X holds, it raises the text's own Error. -/
abbrev ComesE (w : World) (need : Nat) (f : Addr) (vs : List Value) (kw : List (Str × Value)) (pre : Heap → Prop) (R : Value → Heap → Heap → Prop) (X : Prop) : Prop :=
  ∀ (mean : ExcName → Option Value) (mg mb : Str → Option Value) (dp un : Nat) (gd : Option (List Code)) (cn : Str) (cs : Scope) (L a : Addr) (ccd : Value) (cl : List (Str × Addr)) (outer : List Env) (base g : Heap) (gs : Array GenState) (dr : Drawn) (tk : Nat) (os : OsState) (Q E : Value → Shared → Prop),
    (Mine.hd.heap_39 w.params).In base → Top Mine.hd.view_39 loose0 mean mg mb base → Below (ktrTop dp un gd cn cs L a ccd cl outer) base (envX cn cs L a ccd cl :: outer) g → (Mine.hd.heap_39 w.params).In g → Top Mine.hd.view_39 loose0 mean mg mb g → g.get? L ≠ none → cs.kind = .function →
    KtsDicts (framesOf (envX cn cs L a ccd cl :: outer)) g →
    dp + need < recursionLimit → un + 8 * need < cLine → pre g →
    (∀ (v : Value) (h' : Heap) (tk' : Nat), g.StaysIn h' → R v g h' → Q v ⟨h', gs, dr, tk', os⟩) →
    (X → ∀ (e t : Addr) (vs' : List Value) (h' : Heap) (tk' : Nat), RaisedS base g (envX cn cs L a ccd cl :: outer) e (.ref 46) t vs' [] h' → g.UpToSlots h' → E (.ref e) ⟨h', gs, dr, tk', os⟩) →
    wpAny (model PySem.Challenge.rw_pa0026_01.row.prog w) (ktrTop dp un gd cn cs L a ccd cl outer) (call (.ref f) vs kw) Q E ⟨g, gs, dr, tk, os⟩
abbrev Comes (w : World) (need : Nat) (f : Addr) (vs : List Value) (kw : List (Str × Value)) (pre : Heap → Prop) (R : Value → Heap → Heap → Prop) : Prop := ComesE w need f vs kw pre R False
theorem room0 {d b N : Nat} (h : d + b < N) : d < N := Nat.lt_of_le_of_lt (Nat.le_add_right _ _) h
theorem room1 {d k b N : Nat} (h : d + b < N) (hk : Nat.ble k b = true) : d + k < N := Nat.lt_of_le_of_lt (Nat.add_le_add_left (Nat.le_of_ble_eq_true hk) _) h
theorem room2 {d k l b N : Nat} (h : d + b < N) (hk : Nat.ble (k + l) b = true) : d + k + l < N := Nat.add_assoc d k l ▸ room1 h hk
theorem room3 {d k l m b N : Nat} (h : d + b < N) (hk : Nat.ble (k + (l + m)) b = true) : d + k + l + m < N := Nat.add_assoc (d + k) l m ▸ room2 h hk
theorem fr_some {h₀ h : Heap} {L : Addr} {m : Str → Option Value} (F : Fr h₀ L h m) : h.get? L ≠ none := by
  obtain ⟨o, es, ep, hL, _⟩ := F.ns
  rw [hL]
  exact fun e => nomatch e
theorem fr_dict {h₀ h : Heap} {L : Addr} {m : Str → Option Value} (F : Fr h₀ L h m) : ∃ o es n, h.get? L = some o ∧ o.data = .dict es n := by
  obtain ⟨o, es, ep, hL, hd, _⟩ := F.ns
  exact ⟨o, es, ep, hL, hd⟩
theorem dicts_push {h₀ h : Heap} {L a : Addr} {m : Str → Option Value} {cn : Str} {cs : Scope} {ccd : Value} {cl : List (Str × Addr)} {outer : List Env} (F : Fr h₀ L h m) (D : KtsDicts (framesOf outer) h₀) : KtsDicts (framesOf (envX cn cs L a ccd cl :: outer)) h := by
  intro b hb
  have hb' : b = L ∨ b ∈ framesOf outer := by
    obtain ⟨env, he, hf⟩ := List.mem_filterMap.mp hb
    rcases List.mem_cons.mp he with rfl | he
    · exact .inl (Option.some.inj hf).symm
    · exact .inr (List.mem_filterMap.mpr ⟨env, he, hf⟩)
  rcases hb' with rfl | hb'
  · exact fr_dict F
  · obtain ⟨o, es, n, ho, hd⟩ := D b hb'
    exact ⟨o, es, n, F.keep b o ho, hd⟩
theorem comesE_use {w : World} {mean : ExcName → Option Value} {mg mb : Str → Option Value} {need : Nat} {f : Addr} {vs : List Value} {kw : List (Str × Value)} {news : List (Addr × Obj)} {pre : Heap → Prop} {R : Value → Heap → Heap → Prop} {X : Prop}
    {dp un : Nat} {gd : Option (List Code)} {cn : Str} {cs : Scope} {a : Addr} {ccd : Value} {cl : List (Str × Addr)} {outer : List Env} {A₀ : Around} {base h₀ : Heap} {L : Addr} {m : Str → Option Value} {s : Shared} {Q E : Value → Shared → Prop}
    (C : ComesE w need f vs kw pre R X)
    (B : Below A₀ base outer h₀) (F : Fr h₀ L s.heap m) (X₀ : (Mine.hd.heap_39 w.params).In h₀) (N : News h₀ L s.heap news) (T : Top Mine.hd.view_39 loose0 mean mg mb h₀) (hk : cs.kind = .function)
    (XB : (Mine.hd.heap_39 w.params).In base) (TB : Top Mine.hd.view_39 loose0 mean mg mb base) (D : KtsDicts (framesOf outer) h₀)
    (hd : dp + need < recursionLimit) (hu : un + 8 * need < cLine) (hp : pre s.heap)
    (h : ∀ (v : Value) (h' : Heap) (tk' : Nat), s.heap.StaysIn h' → Fr h₀ L h' m → News h₀ L h' news → R v s.heap h' → Q v { s with heap := h', toks := tk' })
    (hE : X → ∀ (e t : Addr) (vs' : List Value) (h' : Heap) (tk' : Nat), RaisedS base s.heap (envX cn cs L a ccd cl :: outer) e (.ref 46) t vs' [] h' → s.heap.UpToSlots h' → E (.ref e) { s with heap := h', toks := tk' }) :
    wpAny (model PySem.Challenge.rw_pa0026_01.row.prog w) (ktrTop dp un gd cn cs L a ccd cl outer) (call (.ref f) vs kw) Q E s := by
  obtain ⟨_, BG, st, _⟩ := groundX (A := ktrTop dp un gd cn cs L a ccd cl outer) (env := envX cn cs L a ccd cl) (R := fun _ _ => True) B F (News.nil) rfl rfl hk
  exact C mean mg mb dp un gd cn cs L a ccd cl outer base s.heap s.gens s.drawn s.toks s.os Q E XB TB BG (X₀.keeps F.keep) (T.keeps F.keep) (fr_some F) hk (dicts_push F D) hd hu hp
    (fun v h' tk' hs hr => h v h' tk' hs (F.keeps hs) (fun p hp => ⟨hs _ _ (N p hp).1, (N p hp).2⟩) hr) hE
theorem comes_use {w : World} {mean : ExcName → Option Value} {mg mb : Str → Option Value} {need : Nat} {f : Addr} {vs : List Value} {kw : List (Str × Value)} {news : List (Addr × Obj)} {pre : Heap → Prop} {R : Value → Heap → Heap → Prop}
    {dp un : Nat} {gd : Option (List Code)} {cn : Str} {cs : Scope} {a : Addr} {ccd : Value} {cl : List (Str × Addr)} {outer : List Env} {A₀ : Around} {base h₀ : Heap} {L : Addr} {m : Str → Option Value} {s : Shared} {Q E : Value → Shared → Prop}
    (C : Comes w need f vs kw pre R)
    (B : Below A₀ base outer h₀) (F : Fr h₀ L s.heap m) (X₀ : (Mine.hd.heap_39 w.params).In h₀) (N : News h₀ L s.heap news) (T : Top Mine.hd.view_39 loose0 mean mg mb h₀) (hk : cs.kind = .function)
    (XB : (Mine.hd.heap_39 w.params).In base) (TB : Top Mine.hd.view_39 loose0 mean mg mb base) (D : KtsDicts (framesOf outer) h₀)
    (hd : dp + need < recursionLimit) (hu : un + 8 * need < cLine) (hp : pre s.heap)
    (h : ∀ (v : Value) (h' : Heap) (tk' : Nat), s.heap.StaysIn h' → Fr h₀ L h' m → News h₀ L h' news → R v s.heap h' → Q v { s with heap := h', toks := tk' }) :
    wpAny (model PySem.Challenge.rw_pa0026_01.row.prog w) (ktrTop dp un gd cn cs L a ccd cl outer) (call (.ref f) vs kw) Q E s :=
  comesE_use C B F X₀ N T hk XB TB D hd hu hp h (fun h => h.elim)
section
variable {prog p : Program} {w : World} {A : Around} {g : Heap} {gs : Array GenState} {dr : Drawn} {tk : Nat} {os : OsState} {K : Frag} {loose : List Str} {mean : ExcName → Option Value} {mg mb : Str → Option Value}
  {R : Result → Shared → Prop} {name qual : Str} {params : Arguments} {body : List Stmt} {scope : Scope} {dV kV doc pm cdv ct oc : Value} {an od : Option Addr} {osl : Array (Option Value)} {f : Addr} {args : Args} {binds : List (Str × Value)}
theorem enter_plain (X : K.In g) (T : Top p loose mean mg mb g)
    (ho : K.lookup f = some ⟨oc, od, .func (fnOf name qual params body scope dV kV doc pm an cdv ct), osl⟩) (hcd : codeIn K cdv qual = true) (hroom : A.depth < recursionLimit)
    (hbind : BindsTo ⟨g, gs, dr, tk, os⟩ (fnOf name qual params body scope dV kV doc pm an cdv ct) args binds) (hloc : ∀ y ∈ binds, scope.names.lookup y.1 = some .local)
    (h : ∀ L' h₁, L' = g.objs.size → Fr g L' h₁ (fun y => binds.reverse.lookup y) → News g L' h₁ [] →
      wpAny (model prog w) (A.deeper (envOf qual scope L' f cdv)) (execs body (envOf qual scope L' f cdv))
        (fun fl s' => R (.ok (.ret (match fl with | .ret v => v | _ => .none))) s')
        (fun e s' => wpAny (model prog w) (A.deeper (envOf qual scope L' f cdv)) (leaving (envOf qual scope L' f cdv) e) (fun _ s'' => R (.error e) s'') (fun e' s'' => R (.error e') s'') s')
        ⟨h₁, gs, dr, tk + binds.length, os⟩)
    (hco : scope.isCoroutine = false) (hgen : scope.isGenerator = false) (hk : scope.kind = .function)
    (hcell : ∀ x ∈ scope.names, x.2 ≠ .cell) : codeAny (model prog w) A (.call (.ref f) args) R ⟨g, gs, dr, tk, os⟩ := by
  refine codeAny_call_def (fd := fnOf name qual params body scope dV kV doc pm an cdv ct) (body := body) (binds := binds) hroom (X _ _ ho) rfl T.nolimit (codeRec_of X hcd) rfl hbind hcell hloc (fun h₁ hns hk₁ => ?_) hco hgen hk
  exact h _ h₁ rfl ⟨hns, hk₁, Nat.le_refl _⟩ News.nil
theorem enter_cells (X : K.In g) (T : Top p loose mean mg mb g)
    (ho : K.lookup f = some ⟨oc, od, .func (fnOf name qual params body scope dV kV doc pm an cdv ct), osl⟩) (hcd : codeIn K cdv qual = true) (hroom : A.depth < recursionLimit)
    (hbind : BindsTo ⟨g, gs, dr, tk, os⟩ (fnOf name qual params body scope dV kV doc pm an cdv ct) args binds)
    (hkind : (binds.all fun y => scope.names.lookup y.1 == some .local || scope.names.lookup y.1 == some .cell) = true)
    (hnd : ((cellsFrom 0 scope.names []).map (·.1)).Nodup)
    (h : ∀ L' h₁ tk' cells, L' = g.objs.size → Fr g L' h₁ (bindL (envOfC qual scope L' f cdv).kindOf binds fun _ => none) → News g L' h₁ cells →
      CellsAre (bindC (envOfC qual scope L' f cdv).kindOf binds fun _ => none) (cellsFrom (L' + 1) scope.names []) cells →
      wpAny (model prog w) (A.deeper (envOfC qual scope L' f cdv)) (execs body (envOfC qual scope L' f cdv))
        (fun fl s' => R (.ok (.ret (match fl with | .ret v => v | _ => .none))) s')
        (fun e s' => wpAny (model prog w) (A.deeper (envOfC qual scope L' f cdv)) (leaving (envOfC qual scope L' f cdv) e) (fun _ s'' => R (.error e) s'') (fun e' s'' => R (.error e') s'') s')
        ⟨h₁, gs, dr, tk', os⟩)
    (hco : scope.isCoroutine = false) (hgen : scope.isGenerator = false) (hk : scope.kind = .function) : codeAny (model prog w) A (.call (.ref f) args) R ⟨g, gs, dr, tk, os⟩ := by
  refine codeAny_call_function hroom (X _ _ ho) rfl hco hgen rfl (codeRec_of X hcd) (hbind _ _ _ _ ?_)
  refine wpAny_newFunctionEnv_cells hk (kindsX hkind _) fun env' he s' x => ?_
  subst he
  refine ⟨T.nolimit.keeps x.toInCall.keep, codeAny_func ?_⟩
  obtain ⟨h₁, tk', rfl, _⟩ := x.done
  have hk₁ := x.toInCall.keep
  obtain ⟨cells, NC, Y⟩ := Cl.news (h₀ := g) (Nat.le_refl _) fun n c hm => ⟨x.cell n c (lookup_of_mem_nodup (cellsFrom_names scope.names 0 (g.objs.size + 1) [] [] rfl ▸ hnd) hm), x.above n c hm⟩
  exact h _ h₁ tk' cells rfl ⟨x.toInCall.ns, hk₁, Nat.le_refl _⟩ (fun p hp => NC p hp) Y
end
theorem raisedS_drop {base G : Heap} {l : List Env} {e : Addr} {cls : Value} {t : Addr} {vs : List Value} {news : List (Addr × Obj)} {h : Heap} (R : RaisedS base G l e cls t vs news h) : RaisedS base G l e cls t vs [] h := by
  obtain ⟨⟨B, h1, h2, _, h4, h5⟩, h6⟩ := R
  exact ⟨⟨B, h1, h2, (fun q hq => by cases hq), h4, h5⟩, h6⟩
theorem int_ret {x y : Int} {t : Tok} (e : x = y) : ∃ t', Value.int x t = Value.int y t' := ⟨t, by rw [e]⟩
theorem bytes_ret {x y : Array UInt8} {t : Tok} (e : x = y) : ∃ t', Value.bytes x t = Value.bytes y t' := ⟨t, by rw [e]⟩
open PySem PySem.W PySem.Spec PySem.Calls PyProof.Rows
/-- The same of a def that catches, or that makes generators: the frames below may have had their slots turned, generators may have been made. -/
abbrev ComesT (w : World) (need : Nat) (f : Addr) (vs : List Value) (kw : List (Str × Value)) (pre : Heap → Prop) (R : Value → Heap → Heap → Prop) : Prop :=
  ∀ (mean : ExcName → Option Value) (mg mb : Str → Option Value) (dp un : Nat) (gd : Option (List Code)) (cn : Str) (cs : Scope) (L a : Addr) (ccd : Value) (cl : List (Str × Addr)) (outer : List Env) (base g : Heap) (gs : Array GenState) (dr : Drawn) (tk : Nat) (os : OsState) (Q E : Value → Shared → Prop),
    (Mine.hd.heap_39 w.params).In base → Top Mine.hd.view_39 loose0 mean mg mb base → Below (ktrTop dp un gd cn cs L a ccd cl outer) base (envX cn cs L a ccd cl :: outer) g → (Mine.hd.heap_39 w.params).In g → Top Mine.hd.view_39 loose0 mean mg mb g → g.get? L ≠ none → cs.kind = .function →
    KtsDicts (framesOf (envX cn cs L a ccd cl :: outer)) g →
    dp + need < recursionLimit → un + 8 * need < cLine → pre g →
    (∀ (v : Value) (g' h' : Heap) (tk' : Nat) (gs' : Array GenState), KtsTurn (framesOf (envX cn cs L a ccd cl :: outer)) g g' → g'.StaysIn h' → (AllBare gs → AllBare gs') → R v g' h' → Q v ⟨h', gs', dr, tk', os⟩) →
    wpAny (model PySem.Challenge.rw_pa0026_01.row.prog w) (ktrTop dp un gd cn cs L a ccd cl outer) (call (.ref f) vs kw) Q E ⟨g, gs, dr, tk, os⟩
end
section
open PySem PySem.W PySem.Spec PySem.Calls PyProof.Rows
set_option maxRecDepth 100000 in
set_option maxHeartbeats 8000000 in
theorem buffer_call (w : World) (x : Array UInt8) (t : Tok) : Comes w 1 63 [.bytes x t] [] (fun _ => True) (fun v _ _ => v = .bytes x t) := by
  k_with_none
  k_with "MINE enter" => (
      w_on
      dsimp only [Comes, ComesE]
      k_fill
      intro mean mg mb dp un gd cn cs L a ccd cl outer base g gs dr tk os Q E XB TB B X T hL hk D hd hu hpre hret hexc
      refine wpAny_call ?_
      k_dflt (first
        | (refine' enter_plain ?k3 ?k5 ?k6 ?k7 ?k8 ?k9 ?kB ?_ ?c2 ?c3 ?c4 ?c5; (case k3 => k_asm); (case k5 => k_asm); (case k6 => k_is); (case k7 => k_is); (case k8 => first | exact room0 hd | exact room1 hd rfl | exact room2 hd rfl | exact room3 hd rfl | ktr_room); (case k9 => first | exact BindsTo.of_eq rfl | exact binds_K (by k_in) rfl (by k_is) rfl rfl rfl); (case c5 => decide); (case kB => exact locs rfl); (case c2 => exact rfl); (case c3 => exact rfl); (case c4 => exact rfl); k_whole; intro L' h' eL' F' N')
        | (refine' enter_cells ?k3 ?k5 ?k6 ?k7 ?k8 ?k9 ?kB ?kD ?_ ?c2 ?c3 ?c4; (case k3 => k_asm); (case k5 => k_asm); (case k6 => k_is); (case k7 => k_is); (case k8 => first | exact room0 hd | exact room1 hd rfl | exact room2 hd rfl | exact room3 hd rfl | ktr_room); (case k9 => first | exact BindsTo.of_eq rfl | exact binds_K (by k_in) rfl (by k_is) rfl rfl rfl); (case kB => exact rfl); (case kD => decide +kernel); (case c2 => exact rfl); (case c3 => exact rfl); (case c4 => exact rfl); k_whole; intro L' h' tk' cells' eL' F' N' Y'; k_cells Y'))
      (try dsimp only)
      (try k_fold))
  k_with "call type:type" => ((with_reducible show wpAny _ _ (call _ [Value.bytes _ _]) _ _ _); refine call_type_of (Tx := "bytes") rfl (by decide +kernel) ?_)
  walk_at "MINE enter"
  k_steps
  all_goals (refine' hret _ _ _ (Fr.keep ?f) rfl; (case f => k_asm))
set_option maxRecDepth 100000 in
set_option maxHeartbeats 8000000 in
theorem ascii_call (w : World) (x : Array UInt8) (t : Tok) : Comes w 1 56 [.bytes x t] [] (fun _ => True) (fun v _ _ => v = .bytes x t) := by
  k_with_none
  k_with "MINE enter" => (
      w_on
      dsimp only [Comes, ComesE]
      k_fill
      intro mean mg mb dp un gd cn cs L a ccd cl outer base g gs dr tk os Q E XB TB B X T hL hk D hd hu hpre hret hexc
      refine wpAny_call ?_
      k_dflt (first
        | (refine' enter_plain ?k3 ?k5 ?k6 ?k7 ?k8 ?k9 ?kB ?_ ?c2 ?c3 ?c4 ?c5; (case k3 => k_asm); (case k5 => k_asm); (case k6 => k_is); (case k7 => k_is); (case k8 => first | exact room0 hd | exact room1 hd rfl | exact room2 hd rfl | exact room3 hd rfl | ktr_room); (case k9 => first | exact BindsTo.of_eq rfl | exact binds_K (by k_in) rfl (by k_is) rfl rfl rfl); (case c5 => decide); (case kB => exact locs rfl); (case c2 => exact rfl); (case c3 => exact rfl); (case c4 => exact rfl); k_whole; intro L' h' eL' F' N')
        | (refine' enter_cells ?k3 ?k5 ?k6 ?k7 ?k8 ?k9 ?kB ?kD ?_ ?c2 ?c3 ?c4; (case k3 => k_asm); (case k5 => k_asm); (case k6 => k_is); (case k7 => k_is); (case k8 => first | exact room0 hd | exact room1 hd rfl | exact room2 hd rfl | exact room3 hd rfl | ktr_room); (case k9 => first | exact BindsTo.of_eq rfl | exact binds_K (by k_in) rfl (by k_is) rfl rfl rfl); (case kB => exact rfl); (case kD => decide +kernel); (case c2 => exact rfl); (case c3 => exact rfl); (case c4 => exact rfl); k_whole; intro L' h' tk' cells' eL' F' N' Y'; k_cells Y'))
      (try dsimp only)
      (try k_fold))
  k_with "call type:type" => ((with_reducible show wpAny _ _ (call _ [Value.bytes _ _]) _ _ _); refine call_type_of (Tx := "bytes") rfl (by decide +kernel) ?_)
  walk_at "MINE enter"
  k_steps
  all_goals (refine' hret _ _ _ (Fr.keep ?f) rfl; (case f => k_asm))
set_option maxRecDepth 100000 in
set_option maxHeartbeats 8000000 in
theorem truth_call (w : World) (x : Bool) : Comes w 1 70 [.bool x] [] (fun _ => True) (fun v _ _ => v = .bool x) := by
  k_with_none
  k_with "MINE enter" => (
      w_on
      dsimp only [Comes, ComesE]
      k_fill
      intro mean mg mb dp un gd cn cs L a ccd cl outer base g gs dr tk os Q E XB TB B X T hL hk D hd hu hpre hret hexc
      refine wpAny_call ?_
      k_dflt (first
        | (refine' enter_plain ?k3 ?k5 ?k6 ?k7 ?k8 ?k9 ?kB ?_ ?c2 ?c3 ?c4 ?c5; (case k3 => k_asm); (case k5 => k_asm); (case k6 => k_is); (case k7 => k_is); (case k8 => first | exact room0 hd | exact room1 hd rfl | exact room2 hd rfl | exact room3 hd rfl | ktr_room); (case k9 => first | exact BindsTo.of_eq rfl | exact binds_K (by k_in) rfl (by k_is) rfl rfl rfl); (case c5 => decide); (case kB => exact locs rfl); (case c2 => exact rfl); (case c3 => exact rfl); (case c4 => exact rfl); k_whole; intro L' h' eL' F' N')
        | (refine' enter_cells ?k3 ?k5 ?k6 ?k7 ?k8 ?k9 ?kB ?kD ?_ ?c2 ?c3 ?c4; (case k3 => k_asm); (case k5 => k_asm); (case k6 => k_is); (case k7 => k_is); (case k8 => first | exact room0 hd | exact room1 hd rfl | exact room2 hd rfl | exact room3 hd rfl | ktr_room); (case k9 => first | exact BindsTo.of_eq rfl | exact binds_K (by k_in) rfl (by k_is) rfl rfl rfl); (case kB => exact rfl); (case kD => decide +kernel); (case c2 => exact rfl); (case c3 => exact rfl); (case c4 => exact rfl); k_whole; intro L' h' tk' cells' eL' F' N' Y'; k_cells Y'))
      (try dsimp only)
      (try k_fold))
  k_with "call type:type" => ((with_reducible show wpAny _ _ (call _ [Value.bytes _ _]) _ _ _); refine call_type_of (Tx := "bytes") rfl (by decide +kernel) ?_)
  walk_at "MINE enter"
  k_steps
  all_goals (refine' hret _ _ _ (Fr.keep ?f) (by simp_all); (case f => k_asm))
set_option maxRecDepth 100000 in
set_option maxHeartbeats 8000000 in
theorem fromDecode_call (w : World) (x : Array UInt8) (t : Tok) : Comes w 1 36 [.bytes x t] [] (fun _ => True) (fun v _ _ => v = .bytes x t) := by
  k_with_none
  k_with "MINE enter" => (
      w_on
      dsimp only [Comes, ComesE]
      k_fill
      intro mean mg mb dp un gd cn cs L a ccd cl outer base g gs dr tk os Q E XB TB B X T hL hk D hd hu hpre hret hexc
      refine wpAny_call ?_
      k_dflt (first
        | (refine' enter_plain ?k3 ?k5 ?k6 ?k7 ?k8 ?k9 ?kB ?_ ?c2 ?c3 ?c4 ?c5; (case k3 => k_asm); (case k5 => k_asm); (case k6 => k_is); (case k7 => k_is); (case k8 => first | exact room0 hd | exact room1 hd rfl | exact room2 hd rfl | exact room3 hd rfl | ktr_room); (case k9 => first | exact BindsTo.of_eq rfl | exact binds_K (by k_in) rfl (by k_is) rfl rfl rfl); (case c5 => decide); (case kB => exact locs rfl); (case c2 => exact rfl); (case c3 => exact rfl); (case c4 => exact rfl); k_whole; intro L' h' eL' F' N')
        | (refine' enter_cells ?k3 ?k5 ?k6 ?k7 ?k8 ?k9 ?kB ?kD ?_ ?c2 ?c3 ?c4; (case k3 => k_asm); (case k5 => k_asm); (case k6 => k_is); (case k7 => k_is); (case k8 => first | exact room0 hd | exact room1 hd rfl | exact room2 hd rfl | exact room3 hd rfl | ktr_room); (case k9 => first | exact BindsTo.of_eq rfl | exact binds_K (by k_in) rfl (by k_is) rfl rfl rfl); (case kB => exact rfl); (case kD => decide +kernel); (case c2 => exact rfl); (case c3 => exact rfl); (case c4 => exact rfl); k_whole; intro L' h' tk' cells' eL' F' N' Y'; k_cells Y'))
      (try dsimp only)
      (try k_fold))
  k_with "call type:type" => ((with_reducible show wpAny _ _ (call _ [Value.bytes _ _]) _ _ _); refine call_type_of (Tx := "bytes") rfl (by decide +kernel) ?_)
  walk_at "MINE enter"
  k_steps
  all_goals (refine' hret _ _ _ (Fr.keep ?f) rfl; (case f => k_asm))
def b64v (c : Int) : Int := if 65 ≤ c ∧ c ≤ 90 then c - 65 else if 97 ≤ c ∧ c ≤ 122 then c - 71 else if 48 ≤ c ∧ c ≤ 57 then c + 4 else if c = 43 then 62 else if c = 47 then 63 else 64
set_option maxRecDepth 100000 in
set_option maxHeartbeats 8000000 in
theorem b64v_call (w : World) (c : Int) (t : Tok) : Comes w 1 77 [.int c t] [] (fun _ => True) (fun v _ _ => ∃ t', v = .int (b64v c) t') := by
  k_with_none
  k_with "MINE enter" => (
      w_on
      dsimp only [Comes, ComesE]
      k_fill
      intro mean mg mb dp un gd cn cs L a ccd cl outer base g gs dr tk os Q E XB TB B X T hL hk D hd hu hpre hret hexc
      refine wpAny_call ?_
      k_dflt (first
        | (refine' enter_plain ?k3 ?k5 ?k6 ?k7 ?k8 ?k9 ?kB ?_ ?c2 ?c3 ?c4 ?c5; (case k3 => k_asm); (case k5 => k_asm); (case k6 => k_is); (case k7 => k_is); (case k8 => first | exact room0 hd | exact room1 hd rfl | exact room2 hd rfl | exact room3 hd rfl | ktr_room); (case k9 => first | exact BindsTo.of_eq rfl | exact binds_K (by k_in) rfl (by k_is) rfl rfl rfl); (case c5 => decide); (case kB => exact locs rfl); (case c2 => exact rfl); (case c3 => exact rfl); (case c4 => exact rfl); k_whole; intro L' h' eL' F' N')
        | (refine' enter_cells ?k3 ?k5 ?k6 ?k7 ?k8 ?k9 ?kB ?kD ?_ ?c2 ?c3 ?c4; (case k3 => k_asm); (case k5 => k_asm); (case k6 => k_is); (case k7 => k_is); (case k8 => first | exact room0 hd | exact room1 hd rfl | exact room2 hd rfl | exact room3 hd rfl | ktr_room); (case k9 => first | exact BindsTo.of_eq rfl | exact binds_K (by k_in) rfl (by k_is) rfl rfl rfl); (case kB => exact rfl); (case kD => decide +kernel); (case c2 => exact rfl); (case c3 => exact rfl); (case c4 => exact rfl); k_whole; intro L' h' tk' cells' eL' F' N' Y'; k_cells Y'))
      (try dsimp only)
      (try k_fold))
  k_with "call type:type" => ((with_reducible show wpAny _ _ (call _ [Value.bytes _ _]) _ _ _); refine call_type_of (Tx := "bytes") rfl (by decide +kernel) ?_)
  walk_at "MINE enter"
  k_steps
  all_goals (refine' hret _ _ _ (Fr.keep ?f) (int_ret ?e); (case f => k_asm); (case e => (unfold b64v; (repeat (first | rw [if_pos (by first | assumption | exact ⟨by assumption, by assumption⟩)] | rw [if_neg (by first | assumption | exact fun h => absurd h.1 (by assumption) | exact fun h => absurd h.2 (by assumption) | omega)])); (try rfl))))
end
section
open PySem PySem.W PySem.Spec PySem.Calls PyProof.Rows
/-- the octet at a place, as an int -/
def bget (b : Array UInt8) (i : Int) : Int := ((b.toList.getD i.toNat 0).toNat : Int)
theorem bget_nonneg (b : Array UInt8) (i : Int) : 0 ≤ bget b i := by unfold bget; omega
theorem bget_lt (b : Array UInt8) (i : Int) : bget b i < 256 := by
  unfold bget
  have := (b.toList.getD i.toNat 0).toNat_lt
  omega
section
variable {prog : Program} {w : World} {A : Around} {E : Value → Shared → Prop} {s : Shared} {Q : Value → Shared → Prop} {a b i : Int} {t u : Tok}
theorem and_63 (h : Q (.int (a % 64) s.toks) { s with toks := s.toks + 1 }) : wpAny (model prog w) A (binaryOp .BitAnd (.int a t) (.int 63 u)) Q E s := and_int (by rw [bitAnd_m6]; exact h)
theorem and_15 (h : Q (.int (a % 16) s.toks) { s with toks := s.toks + 1 }) : wpAny (model prog w) A (binaryOp .BitAnd (.int a t) (.int 15 u)) Q E s := and_int (by rw [bitAnd_m4]; exact h)
theorem and_3 (h : Q (.int (a % 4) s.toks) { s with toks := s.toks + 1 }) : wpAny (model prog w) A (binaryOp .BitAnd (.int a t) (.int 3 u)) Q E s := and_int (by rw [bitAnd_m2]; exact h)
theorem and_65535 (h : Q (.int (a % 65536) s.toks) { s with toks := s.toks + 1 }) : wpAny (model prog w) A (binaryOp .BitAnd (.int a t) (.int 65535 u)) Q E s := and_int (by rw [bitAnd_m16]; exact h)
theorem bitAnd_low (k : Nat) (a b : Int) (h0 : 0 ≤ b) (h1 : b < 2 ^ k) (ha : 0 ≤ a) : Builtin.bitAnd (a * 2 ^ k) b = 0 := by
  have hp : (0 : Int) < 2 ^ k := Int.pow_pos (by omega)
  have hpn : ((2 ^ k : Nat) : Int) = (2 : Int) ^ k := by simp
  rw [bitAnd_pp (Int.mul_nonneg ha (Int.le_of_lt hp)) h0]
  have e1 : (a * 2 ^ k).toNat = a.toNat <<< k := by
    rw [Nat.shiftLeft_eq]
    have : a * 2 ^ k = ((a.toNat * 2 ^ k : Nat) : Int) := by rw [Int.natCast_mul, hpn, Int.toNat_of_nonneg ha]
    rw [this]; exact Int.toNat_natCast _
  have e2 : b.toNat < 2 ^ k := by omega
  have e3 : a.toNat <<< k &&& b.toNat = 0 := by
    apply Nat.eq_of_testBit_eq
    intro j
    rw [Nat.testBit_and, Nat.testBit_shiftLeft, Nat.zero_testBit]
    by_cases hj : k ≤ j
    · have : b.toNat.testBit j = false := Nat.testBit_lt_two_pow (Nat.lt_of_lt_of_le e2 (Nat.pow_le_pow_right (by omega) hj))
      simp [this]
    · simp [hj]
  rw [e1, e3]; rfl
theorem or_low {k : Nat} (h0 : 0 ≤ b) (h1 : b < 2 ^ k) (ha : 0 ≤ a) (h : Q (.int (a * 2 ^ k + b) s.toks) { s with toks := s.toks + 1 }) :
    wpAny (model prog w) A (binaryOp .BitOr (.int (a * 2 ^ k) t) (.int b u)) Q E s := or_int (by rw [bitOr_and, bitAnd_low k a b h0 h1 ha, Int.sub_zero]; exact h)
theorem item_any {value slice : Expr} {x : Array UInt8} (hfit : x.size ≤ 1099511627776) (h0 : 0 ≤ i) (h1 : i < x.size) (h : Q (.int (bget x i) s.toks) { s with toks := s.toks + 1 })
    (hs : subscripted slice false (.bytes x t) (.int i u) = operate [.bytes x t, .int i u] (getItem (.bytes x t) (.int i u)) := by with_unfolding_all rfl) :
    wpAny (model prog w) A (subscriptTail value slice (.bytes x t) (.int i u)) Q E s :=
  tail_any (typeIs_bytes _ _ _) FB.slot_bytes_getitem.lookup (getItem_bytes (l := x.toList) (by simpa using hfit) h0 (by simpa using h1) h) hs
end
end
section
def b64tab : Array UInt8 := #[65, 66, 67, 68, 69, 70, 71, 72, 73, 74, 75, 76, 77, 78, 79, 80, 81, 82, 83, 84, 85, 86, 87, 88, 89, 90, 97, 98, 99, 100, 101, 102, 103, 104, 105, 106, 107, 108, 109, 110, 111, 112, 113, 114, 115, 116, 117, 118, 119, 120, 121, 122, 48, 49, 50, 51, 52, 53, 54, 55, 56, 57, 43, 47]
/-- the sign of a figure of six bits -/
def code (i : Int) : Int := bget b64tab i
theorem code_in (i : Int) : 0 ≤ code i ∧ code i < 256 := ⟨bget_nonneg _ _, bget_lt _ _⟩
theorem bget_in (b : Array UInt8) (i : Int) : 0 ≤ bget b i ∧ bget b i < 256 := ⟨bget_nonneg _ _, bget_lt _ _⟩
theorem in_snoc {l : List Int} {n : Int} (h : ∀ n ∈ l, 0 ≤ n ∧ n < 256) (hn : 0 ≤ n ∧ n < 256) : ∀ k ∈ l ++ [n], 0 ≤ k ∧ k < 256 := by
  intro k hk
  rcases List.mem_append.mp hk with hk | hk
  · exact h k hk
  · rw [List.mem_singleton.mp hk]; exact hn
def bstep (st : Int × Int × List Int) (b : Int) : Int × Int × List Int :=
  let lc := (st.1 * 256 + b) % 65536
  if st.2.1 = 4 then (lc, 0, (st.2.2 ++ [code (lc / 64 % 64)]) ++ [code (lc % 64)])
  else if st.2.1 = 2 then (lc, 4, st.2.2 ++ [code (lc / 16 % 64)])
  else (lc, 2, st.2.2 ++ [code (lc / 4 % 64)])
def bst (bs : List Int) : Int × Int × List Int := bs.foldl bstep (0, 0, [])
theorem bst_snoc (pre : List Int) (b : Int) : bst (pre ++ [b]) = bstep (bst pre) b := by simp [bst, List.foldl_append]
theorem b2a_s0 {pre : List Int} {b lc : Int} {out : List Int} (hst : (lc, (0 : Int), out) = bst pre) (ho : out.length ≤ 2 * pre.length) (hin : ∀ n ∈ out, 0 ≤ n ∧ n < 256) :
    ((lc * 2 ^ Int.toNat 8 + b) % 65536, (0 : Int) + 8 - 6, out ++ [bget b64tab (((lc * 2 ^ Int.toNat 8 + b) % 65536).fdiv (2 ^ ((0 : Int) + 8 - 6).toNat) % 64)]) = bst (pre ++ [b]) ∧
      (out ++ [bget b64tab (((lc * 2 ^ Int.toNat 8 + b) % 65536).fdiv (2 ^ ((0 : Int) + 8 - 6).toNat) % 64)]).length ≤ 2 * (pre ++ [b]).length ∧
      ((0 : Int) + 8 - 6 = 0 ∨ (0 : Int) + 8 - 6 = 2 ∨ (0 : Int) + 8 - 6 = 4) ∧ 0 ≤ (lc * 2 ^ Int.toNat 8 + b) % 65536 ∧ (lc * 2 ^ Int.toNat 8 + b) % 65536 < 65536 ∧ (∀ n ∈ out ++ [bget b64tab (((lc * 2 ^ Int.toNat 8 + b) % 65536).fdiv (2 ^ ((0 : Int) + 8 - 6).toNat) % 64)], 0 ≤ n ∧ n < 256) := by
  refine ⟨?_, ?_, by omega, by omega, by omega, ?_⟩
  · rw [bst_snoc, ← hst]
    simp [bstep, code, Int.fdiv_eq_ediv_of_nonneg]
  · simp only [List.length_append, List.length_cons, List.length_nil]; omega
  · exact in_snoc hin (bget_in _ _)
theorem b2a_s2 {pre : List Int} {b lc : Int} {out : List Int} (hst : (lc, (2 : Int), out) = bst pre) (ho : out.length ≤ 2 * pre.length) (hin : ∀ n ∈ out, 0 ≤ n ∧ n < 256) :
    ((lc * 2 ^ Int.toNat 8 + b) % 65536, (2 : Int) + 8 - 6, out ++ [bget b64tab (((lc * 2 ^ Int.toNat 8 + b) % 65536).fdiv (2 ^ ((2 : Int) + 8 - 6).toNat) % 64)]) = bst (pre ++ [b]) ∧
      (out ++ [bget b64tab (((lc * 2 ^ Int.toNat 8 + b) % 65536).fdiv (2 ^ ((2 : Int) + 8 - 6).toNat) % 64)]).length ≤ 2 * (pre ++ [b]).length ∧
      ((2 : Int) + 8 - 6 = 0 ∨ (2 : Int) + 8 - 6 = 2 ∨ (2 : Int) + 8 - 6 = 4) ∧ 0 ≤ (lc * 2 ^ Int.toNat 8 + b) % 65536 ∧ (lc * 2 ^ Int.toNat 8 + b) % 65536 < 65536 ∧ (∀ n ∈ out ++ [bget b64tab (((lc * 2 ^ Int.toNat 8 + b) % 65536).fdiv (2 ^ ((2 : Int) + 8 - 6).toNat) % 64)], 0 ≤ n ∧ n < 256) := by
  refine ⟨?_, ?_, by omega, by omega, by omega, ?_⟩
  · rw [bst_snoc, ← hst]
    simp [bstep, code, Int.fdiv_eq_ediv_of_nonneg]
  · simp only [List.length_append, List.length_cons, List.length_nil]; omega
  · exact in_snoc hin (bget_in _ _)
theorem b2a_s4 {pre : List Int} {b lc : Int} {out : List Int} (hst : (lc, (4 : Int), out) = bst pre) (ho : out.length ≤ 2 * pre.length) (hin : ∀ n ∈ out, 0 ≤ n ∧ n < 256) :
    ((lc * 2 ^ Int.toNat 8 + b) % 65536, (4 : Int) + 8 - 6 - 6, out ++ [bget b64tab (((lc * 2 ^ Int.toNat 8 + b) % 65536).fdiv (2 ^ ((4 : Int) + 8 - 6).toNat) % 64)] ++ [bget b64tab (((lc * 2 ^ Int.toNat 8 + b) % 65536).fdiv (2 ^ ((4 : Int) + 8 - 6 - 6).toNat) % 64)]) = bst (pre ++ [b]) ∧
      (out ++ [bget b64tab (((lc * 2 ^ Int.toNat 8 + b) % 65536).fdiv (2 ^ ((4 : Int) + 8 - 6).toNat) % 64)] ++ [bget b64tab (((lc * 2 ^ Int.toNat 8 + b) % 65536).fdiv (2 ^ ((4 : Int) + 8 - 6 - 6).toNat) % 64)]).length ≤ 2 * (pre ++ [b]).length ∧
      ((4 : Int) + 8 - 6 - 6 = 0 ∨ (4 : Int) + 8 - 6 - 6 = 2 ∨ (4 : Int) + 8 - 6 - 6 = 4) ∧ 0 ≤ (lc * 2 ^ Int.toNat 8 + b) % 65536 ∧ (lc * 2 ^ Int.toNat 8 + b) % 65536 < 65536 ∧ (∀ n ∈ out ++ [bget b64tab (((lc * 2 ^ Int.toNat 8 + b) % 65536).fdiv (2 ^ ((4 : Int) + 8 - 6).toNat) % 64)] ++ [bget b64tab (((lc * 2 ^ Int.toNat 8 + b) % 65536).fdiv (2 ^ ((4 : Int) + 8 - 6 - 6).toNat) % 64)], 0 ≤ n ∧ n < 256) := by
  refine ⟨?_, ?_, by omega, by omega, by omega, ?_⟩
  · rw [bst_snoc, ← hst]
    simp [bstep, code, Int.fdiv_eq_ediv_of_nonneg]
  · simp only [List.length_append, List.length_cons, List.length_nil]; omega
  · exact in_snoc (in_snoc hin (bget_in _ _)) (bget_in _ _)
def bfin (st : Int × Int × List Int) : List Int :=
  if st.2.1 = 2 then ((st.2.2 ++ [code (st.1 % 4 * 16)]) ++ [61]) ++ [61]
  else if st.2.1 = 4 then (st.2.2 ++ [code (st.1 % 16 * 4)]) ++ [61]
  else st.2.2
theorem bst_len (l : List Int) : (bst l).2.2.length ≤ 2 * l.length := by
  unfold bst
  have : ∀ (l : List Int) (st : Int × Int × List Int), (l.foldl bstep st).2.2.length ≤ st.2.2.length + 2 * l.length := by
    intro l
    induction l with
    | nil => intro st; simp
    | cons b l ih =>
      intro st
      have h := ih (bstep st b)
      have h2 : (bstep st b).2.2.length ≤ st.2.2.length + 2 := by unfold bstep; dsimp only; split <;> (try split) <;> simp
      simp only [List.foldl_cons, List.length_cons]
      omega
  simpa using this l (0, 0, [])
theorem bfin_len (l : List Int) : (bfin (bst l)).length ≤ 2 * l.length + 3 := by
  have h := bst_len l
  unfold bfin
  split <;> (try split) <;> simp <;> omega
end
section
open PySem.W
/-- one figure more, as a2b_base64 takes it: (place in the four, what is left over, the octets told) -/
def dstep (st : Int × Int × List Int) (f : Int) : Int × Int × List Int :=
  if st.1 = 0 then (1, f, st.2.2)
  else if st.1 = 1 then (2, f % 16, st.2.2 ++ [st.2.1 * 4 + f / 16])
  else if st.1 = 2 then (3, f % 4, st.2.2 ++ [st.2.1 * 16 + f / 4])
  else (0, 0, st.2.2 ++ [st.2.1 * 64 + f])
def dst (fs : List Int) : Int × Int × List Int := fs.foldl dstep (0, 0, [])
theorem dst_snoc (pre : List Int) (f : Int) : dst (pre ++ [f]) = dstep (dst pre) f := by simp [dst, List.foldl_append]
theorem code_ne {f : Int} (h0 : 0 ≤ f) (h1 : f < 64) : code f ≠ 61 := by
  have : ∀ n : Fin 64, code ((n.val : Nat) : Int) ≠ 61 := by decide
  have e := this ⟨f.toNat, (Int.toNat_lt h0).mpr h1⟩
  have e2 : ((f.toNat : Nat) : Int) = f := Int.toNat_of_nonneg h0
  simpa [e2] using e
theorem b64v_code {f : Int} (h0 : 0 ≤ f) (h1 : f < 64) : b64v (code f) = f := by
  have : ∀ n : Fin 64, b64v (code ((n.val : Nat) : Int)) = ((n.val : Nat) : Int) := by decide
  have e := this ⟨f.toNat, (Int.toNat_lt h0).mpr h1⟩
  have e2 : ((f.toNat : Nat) : Int) = f := Int.toNat_of_nonneg h0
  simpa [e2] using e
theorem a2b_at {figs pre post : List Int} {b : Int} {k : Nat} (hf : ∀ f ∈ figs, 0 ≤ f ∧ f < 64) (h : figs.map code ++ List.replicate k 61 = pre ++ b :: post) :
    (∃ f, figs.take (pre.length + 1) = figs.take pre.length ++ [f] ∧ b = code f ∧ 0 ≤ f ∧ f < 64 ∧ pre.length < figs.length) ∨ (figs.length ≤ pre.length ∧ b = 61 ∧ figs.take (pre.length + 1) = figs ∧ figs.take pre.length = figs ∧ pre.length < figs.length + k) := by
  have hb : (figs.map code ++ List.replicate k 61)[pre.length]? = some b := by rw [h]; simp
  have hl : (figs.map code ++ List.replicate k 61).length = pre.length + (post.length + 1) := by rw [h]; simp
  simp only [List.length_append, List.length_map, List.length_replicate] at hl
  by_cases hj : pre.length < figs.length
  · left
    refine ⟨figs[pre.length], ?_, ?_, ?_⟩
    · rw [List.take_add_one, List.getElem?_eq_getElem hj]; rfl
    · rw [List.getElem?_append_left (by rw [List.length_map]; exact hj)] at hb
      rw [List.getElem?_map, List.getElem?_eq_getElem hj] at hb
      exact (Option.some.inj hb).symm
    · have := hf figs[pre.length] (List.getElem_mem hj)
      exact ⟨this.1, this.2, hj⟩
  · right
    have hj' : figs.length ≤ pre.length := Nat.le_of_not_lt hj
    refine ⟨hj', ?_, List.take_of_length_le (Nat.le_succ_of_le hj'), List.take_of_length_le hj', by rw [hl]; exact Nat.lt_add_of_pos_right (Nat.succ_pos _)⟩
    rw [List.getElem?_append_right (by rw [List.length_map]; exact hj')] at hb
    simp only [List.length_map, List.getElem?_replicate] at hb
    split at hb
    · exact (Option.some.inj hb).symm
    · cases hb
/-- what holds in a2b_base64's loop when j signs are taken -/
def AOk (figs : List Int) (j : Nat) (q lc pd : Int) (out : List Int) : Prop :=
  (q, lc, out) = dst (figs.take j) ∧ pd = ((j - figs.length : Nat) : Int) ∧ out.length ≤ j ∧ (q = 0 ∨ q = 1 ∨ q = 2 ∨ q = 3) ∧ 0 ≤ lc ∧ lc < 64 ∧ (q = 2 → lc < 16) ∧ (q = 3 → lc < 4) ∧ (∀ n ∈ out, 0 ≤ n ∧ n < 256)
/-- where a2b_base64 refuses figures with k signs = behind -/
def ABad (figs : List Int) (k : Nat) : Prop := (dst figs).1 = 1 ∨ ((dst figs).1 ≠ 0 ∧ (dst figs).1 + (k : Int) < 4)
theorem pd_zero {pd : Int} {p f : Nat} (h : pd = ((p - f : Nat) : Int)) (hj : p < f) : pd = 0 := by rw [h, Nat.sub_eq_zero_of_le (Nat.le_of_lt hj)]; rfl
theorem pd_next {pd : Int} {p f : Nat} (h : pd = ((p - f : Nat) : Int)) (hj : f ≤ p) : pd + 1 = ((p + (0 + 1) - f : Nat) : Int) := by
  rw [h, Nat.zero_add, Nat.sub_add_comm hj]; rfl
theorem pd_end {pd : Int} {p f k : Nat} (h : pd = ((p - f : Nat) : Int)) (hx : p = f + k) : pd = (k : Int) := by rw [h, hx, Nat.add_sub_cancel_left]
theorem pd_room {q pd : Int} {p f X k : Nat} (h1 : p < X) (h2 : pd = ((p - f : Nat) : Int)) (h3 : X = f + k) (h4 : f ≤ p) (h5 : k = 0 ∨ 2 ≤ q ∧ q + (k : Int) ≤ 4) : 2 ≤ q ∧ q + (pd + 1) ≤ 4 := by
  rcases h5 with h5 | ⟨h5, h6⟩
  · rw [h3, h5] at h1; exact absurd h1 (Nat.not_lt.mpr h4)
  · obtain ⟨d, rfl⟩ := Nat.exists_eq_add_of_le h4
    rw [Nat.add_sub_cancel_left] at h2
    rw [h3] at h1
    have h7 : (d : Int) + 1 ≤ (k : Int) := Int.ofNat_le.mpr (Nat.lt_of_add_lt_add_left h1)
    exact ⟨h5, h2 ▸ Int.le_trans (Int.add_le_add_left h7 q) h6⟩
theorem hq3 {q : Int} (h : q = 0 ∨ q = 1 ∨ q = 2 ∨ q = 3) (h0 : q ≠ 0) (h1 : q ≠ 1) (h2 : q ≠ 2) : q = 3 := h.elim (fun h => absurd h h0) fun h => h.elim (fun h => absurd h h1) fun h => h.elim (fun h => absurd h h2) id
theorem abad_1 {figs : List Int} {k : Nat} {q : Int} (e : (dst figs).1 = q) (h : q = 1) : ABad figs k := .inl (e.trans h)
theorem abad_2 {figs : List Int} {k : Nat} {q : Int} (e : (dst figs).1 = q) (h : q ≠ 0) (h2 : q + (k : Int) < 4) : ABad figs k := .inr ⟨fun c => h (e.symm.trans c), e ▸ h2⟩
theorem ngood_1 {figs : List Int} {k : Nat} {q : Int} (e : (dst figs).1 = q) (h : q ≠ 1) (h2 : ¬ q + (k : Int) < 4) : ¬ ABad figs k := fun c => c.elim (fun c => h (e.symm.trans c)) fun c => h2 (e ▸ c.2)
theorem ngood_0 {figs : List Int} {k : Nat} {q : Int} (e : (dst figs).1 = q) (h : q = 0) : ¬ ABad figs k := fun c => c.elim (fun c => absurd (c.symm.trans (e.trans h)) (by decide)) fun c => c.1 (e.trans h)
theorem pd_same {p f : Nat} (hj : p < f) : (0 : Int) = ((p + (0 + 1) - f : Nat) : Int) := by rw [Nat.zero_add, Nat.sub_eq_zero_of_le hj]; rfl
theorem fit4 {lc f c : Int} {m d : Int} (h0 : 0 ≤ lc) (h1 : lc < c) (f0 : 0 ≤ f) (f1 : f < m) (hd : m * c ≤ d) : 0 ≤ lc * m + f ∧ lc * m + f < d := by
  have hm : 0 < m := Int.lt_of_le_of_lt f0 f1
  have h2 : (lc + 1) * m ≤ c * m := Int.mul_le_mul_of_nonneg_right h1 (Int.le_of_lt hm)
  rw [Int.add_mul, Int.one_mul, Int.mul_comm c m] at h2
  exact ⟨Int.add_nonneg (Int.mul_nonneg h0 (Int.le_of_lt hm)) f0, Int.lt_of_lt_of_le (Int.add_lt_add_left f1 _) (Int.le_trans h2 hd)⟩
theorem div_in {f a b : Int} (h0 : 0 ≤ f) (h1 : f < a * b) (hb : 0 < b) : 0 ≤ f / b ∧ f / b < a := ⟨Int.ediv_nonneg h0 (Int.le_of_lt hb), Int.ediv_lt_of_lt_mul hb h1⟩
theorem mod_in {f b : Int} (hb : 0 < b) : 0 ≤ f % b ∧ f % b < b := ⟨Int.emod_nonneg _ (Int.ne_of_gt hb), Int.emod_lt_of_pos _ hb⟩
theorem nev {a b : Int} {P : Prop} (h : a ≠ b := by decide) : a = b → P := fun e => absurd e h
section
variable {figs pre out : List Int} {b f lc : Int}
theorem a2b_s0 {q : Int} (hq0 : q = 0) (H : AOk figs pre.length q lc 0 out) (htk : figs.take (pre.length + 1) = figs.take pre.length ++ [f]) (hbv : b64v b = f) (hf0 : 0 ≤ f) (hf1 : f < 64) (hj : pre.length < figs.length) :
    AOk figs (pre ++ [b]).length 1 (b64v b) 0 out := by
  subst hq0
  obtain ⟨hst, hpd, ho, hq, h0, h1, h2, h3, hin⟩ := H
  rw [hbv, List.length_append, List.length_cons, List.length_nil]
  refine ⟨?_, pd_same hj, Nat.le_succ_of_le ho, by decide, hf0, hf1, nev, nev, hin⟩
  rw [htk, dst_snoc, ← hst]; rfl
theorem a2b_s1 {q : Int} (hq0 : q = 1) (H : AOk figs pre.length q lc 0 out) (htk : figs.take (pre.length + 1) = figs.take pre.length ++ [f]) (hbv : b64v b = f) (hf0 : 0 ≤ f) (hf1 : f < 64) (hj : pre.length < figs.length) :
    AOk figs (pre ++ [b]).length 2 (b64v b % 16) 0 (out ++ [PySem.Builtin.bitOr (lc * 2 ^ Int.toNat 2) ((b64v b).fdiv (2 ^ Int.toNat 4))]) := by
  subst hq0
  obtain ⟨hst, hpd, ho, hq, h0, h1, h2, h3, hin⟩ := H
  rw [hbv, List.length_append, List.length_cons, List.length_nil]
  have d := div_in (a := 4) (b := 16) hf0 hf1 (by decide)
  have e : PySem.Builtin.bitOr (lc * 2 ^ Int.toNat 2) (f.fdiv (2 ^ Int.toNat 4)) = lc * 4 + f / 16 := by
    have e1 : f.fdiv (2 ^ Int.toNat 4) = f / 16 := Int.fdiv_eq_ediv_of_nonneg _ (by decide)
    rw [e1, PyProof.Rows.bitOr_and, bitAnd_low _ _ _ d.1 d.2 h0]; exact Int.sub_zero _
  rw [e]
  have m := mod_in (f := f) (b := 16) (by decide)
  refine ⟨?_, pd_same hj, by rw [List.length_append]; exact Nat.succ_le_succ ho, by decide, m.1, Int.lt_trans m.2 (by decide), fun _ => m.2, nev, in_snoc hin (fit4 h0 h1 d.1 d.2 (by decide))⟩
  rw [htk, dst_snoc, ← hst]; rfl
theorem a2b_s2 {q : Int} (hq0 : q = 2) (H : AOk figs pre.length q lc 0 out) (htk : figs.take (pre.length + 1) = figs.take pre.length ++ [f]) (hbv : b64v b = f) (hf0 : 0 ≤ f) (hf1 : f < 64) (hj : pre.length < figs.length) :
    AOk figs (pre ++ [b]).length 3 (b64v b % 4) 0 (out ++ [PySem.Builtin.bitOr (lc * 2 ^ Int.toNat 4) ((b64v b).fdiv (2 ^ Int.toNat 2))]) := by
  subst hq0
  obtain ⟨hst, hpd, ho, hq, h0, h1, h2, h3, hin⟩ := H
  have h2 := h2 rfl
  rw [hbv, List.length_append, List.length_cons, List.length_nil]
  have d := div_in (a := 16) (b := 4) hf0 hf1 (by decide)
  have e : PySem.Builtin.bitOr (lc * 2 ^ Int.toNat 4) (f.fdiv (2 ^ Int.toNat 2)) = lc * 16 + f / 4 := by
    have e1 : f.fdiv (2 ^ Int.toNat 2) = f / 4 := Int.fdiv_eq_ediv_of_nonneg _ (by decide)
    rw [e1, PyProof.Rows.bitOr_and, bitAnd_low _ _ _ d.1 d.2 h0]; exact Int.sub_zero _
  rw [e]
  have m := mod_in (f := f) (b := 4) (by decide)
  refine ⟨?_, pd_same hj, by rw [List.length_append]; exact Nat.succ_le_succ ho, by decide, m.1, Int.lt_trans m.2 (by decide), nev, fun _ => m.2, in_snoc hin (fit4 h0 h2 d.1 d.2 (by decide))⟩
  rw [htk, dst_snoc, ← hst]; rfl
theorem a2b_s3 {q : Int} (hq0 : q = 3) (H : AOk figs pre.length q lc 0 out) (htk : figs.take (pre.length + 1) = figs.take pre.length ++ [f]) (hbv : b64v b = f) (hf0 : 0 ≤ f) (hf1 : f < 64) (hj : pre.length < figs.length) :
    AOk figs (pre ++ [b]).length 0 0 0 (out ++ [lc * 2 ^ Int.toNat 6 + b64v b]) := by
  subst hq0
  obtain ⟨hst, hpd, ho, hq, h0, h1, h2, h3, hin⟩ := H
  have h3 := h3 rfl
  rw [hbv, List.length_append, List.length_cons, List.length_nil]
  have e : lc * 2 ^ Int.toNat 6 + f = lc * 64 + f := rfl
  rw [e]
  refine ⟨?_, pd_same hj, by rw [List.length_append]; exact Nat.succ_le_succ ho, by decide, by decide, by decide, nev, nev, in_snoc hin (fit4 h0 h3 hf0 hf1 (by decide))⟩
  rw [htk, dst_snoc, ← hst]; rfl
theorem a2b_sp {q pd : Int} (H : AOk figs pre.length q lc pd out) (htk : figs.take (pre.length + 1) = figs) (htk2 : figs.take pre.length = figs) (hj : figs.length ≤ pre.length) :
    AOk figs (pre ++ [b]).length q lc (pd + 1) out := by
  obtain ⟨hst, hpd, ho, hq, h0, h1, h2, h3, hin⟩ := H
  rw [List.length_append, List.length_cons, List.length_nil]
  refine ⟨?_, pd_next hpd hj, Nat.le_succ_of_le ho, hq, h0, h1, h2, h3, hin⟩
  rw [hst, htk, htk2]
end
end
section
open PySem.W
/-- the number that a row of figures to the base b writes -/
def val (b : Int) (ns : List Int) : Int := ns.foldl (fun v n => v * b + n) 0
theorem val_snoc (b : Int) (pre : List Int) (n : Int) : val b (pre ++ [n]) = val b pre * b + n := by simp [val, List.foldl_append]
theorem rev_ind {P : List Int → Prop} (h0 : P []) (hs : ∀ pre x, P pre → P (pre ++ [x])) (l : List Int) : P l := by
  have h : ∀ l : List Int, P l.reverse := by
    intro l
    induction l with
    | nil => exact h0
    | cons a l ih => rw [List.reverse_cons]; exact hs _ _ ih
  have := h l.reverse
  rwa [List.reverse_reverse] at this
theorem val_bound {b : Int} (hb : 0 < b) (ns : List Int) : (∀ n ∈ ns, 0 ≤ n ∧ n < b) → 0 ≤ val b ns ∧ val b ns < b ^ ns.length := by
  induction ns using rev_ind with
  | h0 => exact fun _ => ⟨Int.le_refl _, by rw [List.length_nil, Int.pow_zero]; exact Int.zero_lt_one⟩
  | hs pre x ih =>
    intro hn
    have h1 := ih (fun n hm => hn n (List.mem_append_left _ hm))
    have h2 := hn x (List.mem_append_right _ (List.mem_singleton.mpr rfl))
    rw [val_snoc, List.length_append]
    exact fit4 h1.1 h1.2 h2.1 h2.2 (Int.le_of_eq (by rw [Int.mul_comm]; exact (Int.pow_succ b pre.length).symm))
theorem val_le {b : Int} (hb : 1 ≤ b) {ns : List Int} (hn : ∀ n ∈ ns, 0 ≤ n ∧ n < b) {k : Nat} (hk : ns.length ≤ k) : 0 ≤ val b ns ∧ val b ns < b ^ k := by
  have hb0 : 0 < b := Int.lt_of_lt_of_le (by decide) hb
  have h := val_bound hb0 ns hn
  refine ⟨h.1, Int.lt_of_lt_of_le h.2 ?_⟩
  obtain ⟨d, rfl⟩ := Nat.exists_eq_add_of_le hk
  rw [Int.pow_add]
  have h1 : (1 : Int) ≤ b ^ d := Int.pow_pos hb0
  have h3 := Int.mul_le_mul_of_nonneg_left h1 (Int.le_of_lt (Int.pow_pos hb0 (m := ns.length)))
  rwa [Int.mul_one] at h3
open PySem PySem.W PySem.Calls PyProof.Rows
theorem p2_tab : ∀ k : Fin 8, (2 : Int) ^ k.val ≠ 0 ∧ ((2 : Int) ^ k.val).natAbs < 1073741824 := by decide
theorem p2_small (x : Int) : (2 : Int) ^ (x.fmod 8).toNat ≠ 0 ∧ ((2 : Int) ^ (x.fmod 8).toNat).natAbs < 1073741824 := by
  have h2 := Int.fmod_lt_of_pos x (show (0 : Int) < 8 by decide)
  have h1 : (x.fmod 8).toNat < 8 := (Int.toNat_lt (Int.fmod_nonneg_of_pos x (by decide))).mpr h2
  generalize (x.fmod 8).toNat = k at h1
  exact p2_tab ⟨k, h1⟩
theorem pow_small {b : Int} {k : Nat} (hb : 1 ≤ b) (hb2 : b ≤ 256) (hk : k ≤ 32) (x : Int) : b ^ k ≠ 0 ∧ Builtin.divisionGoesByPylong x (b ^ k) = false := by
  have hb0 : 0 < b := Int.lt_of_lt_of_le (by decide) hb
  have hp : 0 < b ^ k := Int.pow_pos hb0
  refine ⟨Int.ne_of_gt hp, PyProof.noPylong_of_log2 ?_⟩
  have hn : b.natAbs ≤ 256 := Int.ofNat_le.mp (by rw [Int.natAbs_of_nonneg (Int.le_of_lt hb0)]; exact hb2)
  have h1 : (b ^ k).natAbs ≤ 256 ^ 32 := by
    rw [Int.natAbs_pow]
    exact Nat.le_trans (Nat.pow_le_pow_left hn k) (Nat.pow_le_pow_right (by decide) hk)
  exact Nat.lt_trans ((Nat.log2_lt (Int.natAbs_ne_zero.mpr (Int.ne_of_gt hp))).mpr (Nat.lt_of_le_of_lt h1 (by decide : 256 ^ 32 < 2 ^ 257))) (by decide)
section
variable {prog : Program} {w : World} {A : Around} {E : Value → Shared → Prop} {s : Shared} {Q : Value → Shared → Prop} {a b : Int} {k : Nat} {t u : Tok}
theorem idiv_p2 {x : Int} (h : Q (.int (a.fdiv (2 ^ (x.fmod 8).toNat)) s.toks) { s with toks := s.toks + 1 }) : wpAny (model prog w) A (inplaceOp .FloorDiv (.int a t) (.int (2 ^ (x.fmod 8).toNat) u)) Q E s :=
  ifloordiv_int (p2_small x).1 h (.inl (PyProof.noPylong_small (p2_small x).2))
theorem div_pow (hb : 1 ≤ b) (hb2 : b ≤ 256) (hk : k ≤ 32) (h : Q (.int (a.fdiv (b ^ k)) s.toks) { s with toks := s.toks + 1 }) : wpAny (model prog w) A (binaryOp .FloorDiv (.int a t) (.int (b ^ k) u)) Q E s :=
  floordiv_int (pow_small hb hb2 hk a).1 h (.inl (pow_small hb hb2 hk a).2)
end
theorem revmod_in (f : Int → Int) (l : List Int) : ∀ n ∈ (l.map fun k => (f k).fmod 256).reverse, 0 ≤ n ∧ n < 256 := by
  intro n hn
  obtain ⟨k, _, rfl⟩ := List.mem_map.mp (List.mem_reverse.mp hn)
  exact ⟨Int.fmod_nonneg_of_pos _ (by omega), Int.fmod_lt_of_pos _ (by omega)⟩
open PySem.W
/-- what _law_octets makes of figures -/
def octs (ns : List Int) : List Int := ((rangeKs 0 (((ns.length : Int) * 3).fdiv 4 - 0).toNat).map fun k' => (((val 64 ns).fdiv (2 ^ ((-2 * (ns.length : Int)).fmod 8).toNat)).fdiv (256 ^ k'.toNat)).fmod 256).reverse
theorem kk_lt {k n : Int} {c : Nat} (h1 : n ≤ (c : Int)) (hk : k < 0 + ((n - 0).toNat : Int)) : k < (c : Int) := by
  rw [Int.zero_add, Int.sub_zero] at hk
  exact Int.lt_of_lt_of_le hk (Int.ofNat_le.mpr (Int.toNat_le.mpr h1))
theorem kk32 {k n : Int} {c : Nat} (h1 : n ≤ (c : Int)) (hc : Nat.ble c 32 = true) (hk : k < 0 + ((n - 0).toNat : Int)) : k.toNat ≤ 32 :=
  Int.toNat_le.mpr (Int.le_trans (Int.le_of_lt (kk_lt h1 hk)) (Int.ofNat_le.mpr (Nat.le_of_ble_eq_true hc)))
theorem kkM {k n : Int} {c : Nat} (h1 : n ≤ (c : Int)) (hc : Nat.ble c 1000000 = true) (hk : k < 0 + ((n - 0).toNat : Int)) : k ≤ 1000000 :=
  Int.le_trans (Int.le_of_lt (kk_lt h1 hk)) (Int.ofNat_le.mpr (Nat.le_of_ble_eq_true hc))
end
section
open PySem PySem.W PySem.Spec PySem.Calls PyProof.Rows
set_option maxRecDepth 100000 in
set_option maxHeartbeats 8000000 in
theorem b2a_call (w : World) (x : Array UInt8) (hx : x.size ≤ 12) (t : Tok) : Comes w 2 93 [.bytes x t] [(Str.ofString "newline", .bool false)] (fun _ => True) (fun v _ _ => ∃ t', v = .bytes (byteArr (bfin (bst (KBw.bInts x)))) t') := by
  k_with_none
  k_with "MINE enter" => (
      w_on
      dsimp only [Comes, ComesE]
      k_fill
      intro mean mg mb dp un gd cn cs L a ccd cl outer base g gs dr tk os Q E XB TB B X T hL hk D hd hu hpre hret hexc
      refine wpAny_call ?_
      k_dflt (first
        | (refine' enter_plain ?k3 ?k5 ?k6 ?k7 ?k8 ?k9 ?kB ?_ ?c2 ?c3 ?c4 ?c5; (case k3 => k_asm); (case k5 => k_asm); (case k6 => k_is); (case k7 => k_is); (case k8 => first | exact room0 hd | exact room1 hd rfl | exact room2 hd rfl | exact room3 hd rfl | ktr_room); (case k9 => first | exact BindsTo.of_eq rfl | exact binds_K (by k_in) rfl (by k_is) rfl rfl rfl); (case c5 => decide); (case kB => exact locs rfl); (case c2 => exact rfl); (case c3 => exact rfl); (case c4 => exact rfl); k_whole; intro L' h' eL' F' N')
        | (refine' enter_cells ?k3 ?k5 ?k6 ?k7 ?k8 ?k9 ?kB ?kD ?_ ?c2 ?c3 ?c4; (case k3 => k_asm); (case k5 => k_asm); (case k6 => k_is); (case k7 => k_is); (case k8 => first | exact room0 hd | exact room1 hd rfl | exact room2 hd rfl | exact room3 hd rfl | ktr_room); (case k9 => first | exact BindsTo.of_eq rfl | exact binds_K (by k_in) rfl (by k_is) rfl rfl rfl); (case kB => exact rfl); (case kD => decide +kernel); (case c2 => exact rfl); (case c3 => exact rfl); (case c4 => exact rfl); k_whole; intro L' h' tk' cells' eL' F' N' Y'; k_cells Y'))
      (try dsimp only)
      (try k_fold))
  k_with "call type:type" => ((with_reducible show wpAny _ _ (call _ [Value.bytes _ _]) _ _ _); refine call_type_of (Tx := "bytes") rfl (by decide +kernel) ?_)
  k_with "call builtin:list.append" => (k_here; (show wpAny _ _ (call (Value.builtin "list.append") [Value.ref _, _]) _ _ _); k_dflt (refine' append_K ?k1 ?k2 ?k3 ?_ ?z; (case k1 => k_asm); (case k2 => k_asm); (case k3 => k_upd); (case z => size_fits); k_whole); intro h' F' N'; (try simp only [List.push_toArray] at N'); (try k_sweep))
  k_with "binaryOp BitAnd int int" => ((with_reducible show wpAny _ _ (binaryOp _ (Value.int _ _) (Value.int 63 _)) _ _ _); refine and_63 ?_)
  k_with "binaryOp BitAnd int int" => ((with_reducible show wpAny _ _ (binaryOp _ (Value.int _ _) (Value.int 15 _)) _ _ _); refine and_15 ?_)
  k_with "binaryOp BitAnd int int" => ((with_reducible show wpAny _ _ (binaryOp _ (Value.int _ _) (Value.int 3 _)) _ _ _); refine and_3 ?_)
  k_with "binaryOp BitAnd int int" => ((with_reducible show wpAny _ _ (binaryOp _ (Value.int _ _) (Value.int 65535 _)) _ _ _); refine and_65535 ?_)
  k_with "binaryOp BitOr int int" => ((with_reducible show wpAny _ _ (binaryOp _ (Value.int (_ * 2 ^ _) _) (Value.int _ _)) _ _ _); refine or_low (by first | omega | (simp; omega)) (by first | omega | (simp; omega)) (by first | omega | (simp; omega)) ?_)
  k_with "subscriptTail" => ((with_reducible show wpAny _ _ (subscriptTail _ _ (Value.bytes _ _) (Value.int _ _)) _ _ _); refine item_any (by first | decide | omega | (simp; omega)) (by first | omega | (simp; omega)) (by first | omega | (simp; omega)) ?_)
  k_with "call ref" => ((with_reducible show wpAny _ _ (call (Value.ref 63) [Value.bytes _ _]) _ _ _); k_dflt (refine' comes_use (buffer_call _ _ _) ?k1 ?k2 ?k3 ?k4 ?k5 ?k6 ?kXB ?kTB ?kD ?k7 ?k8 ?k9 ?_; (case k1 => k_asm); (case k2 => k_asm); (case k3 => k_asm); (case k4 => k_asm); (case k5 => k_asm); (case kXB => assumption); (case kTB => assumption); (case kD => assumption); (case k6 => first | exact rfl | assumption); (case k7 => first | exact room0 hd | exact room1 hd rfl | exact room2 hd rfl | exact room3 hd rfl | ktr_room); (case k8 => first | exact room0 hu | exact room1 hu rfl | exact room2 hu rfl | exact room3 hu rfl | ktr_units); (case k9 => trivial); k_whole; (intro v' h' tk' hs' F' N' e'); (subst e'); (try dsimp only); (try k_sweep)))
  k_with "call ref" => ((with_reducible show wpAny _ _ (call (Value.ref 70) [Value.bool _]) _ _ _); k_dflt (refine' comes_use (truth_call _ _) ?k1 ?k2 ?k3 ?k4 ?k5 ?k6 ?kXB ?kTB ?kD ?k7 ?k8 ?k9 ?_; (case k1 => k_asm); (case k2 => k_asm); (case k3 => k_asm); (case k4 => k_asm); (case k5 => k_asm); (case kXB => assumption); (case kTB => assumption); (case kD => assumption); (case k6 => first | exact rfl | assumption); (case k7 => first | exact room0 hd | exact room1 hd rfl | exact room2 hd rfl | exact room3 hd rfl | ktr_room); (case k8 => first | exact room0 hu | exact room1 hu rfl | exact room2 hu rfl | exact room3 hu rfl | ktr_units); (case k9 => trivial); k_whole; (intro v' h' tk' hs' F' N' e'); (subst e'); (try dsimp only); (try k_sweep)))
  k_with "call type:bytes" => (k_here; (with_reducible show wpAny _ _ (call (Value.type "bytes") [Value.ref _]) _ _ _); k_dflt (refine' KBa.make_K ?kbaF ?kbaN ?kbah ?kbal ?kbai ?kbar ?kban ?_; (case kbaF => k_asm); (case kbaN => k_asm); (case kbah => rfl); (case kbal => kba_isList); (case kbai => first | k_intsEnd | kba_listInts); (case kbar => (repeat (first | assumption | refine in_snoc ?_ (by first | exact bget_in _ _ | decide)))); (case kban => first | kba_size | ((try simp only [List.length_append, List.length_cons, List.length_nil]); omega))); intro _ _ _ F' N' kbaIn)
  walk_at "MINE enter"
  k_steps
  rename_i l' _ _ _ _ _ lF lN
  with_unfolding_all refine' KStb.kst_bytes (σ := Int × Nat × Int × Nat × List Value × List Int × Nat) (fun c => [(l', listOf c.2.2.2.2.1.toArray c.2.2.2.2.2.2)]) (fun c => [(Str.ofString "leftchar", .int c.1 c.2.1), (Str.ofString "leftbits", .int c.2.2.1 c.2.2.2.1)]) (fun c => IntsAre c.2.2.2.2.1 c.2.2.2.2.2.1) [] (fun pre c => (c.1, c.2.2.1, c.2.2.2.2.2.1) = bst pre ∧ c.2.2.2.2.2.1.length ≤ 2 * pre.length ∧ (c.2.2.1 = 0 ∨ c.2.2.1 = 2 ∨ c.2.2.1 = 4) ∧ 0 ≤ c.1 ∧ c.1 < 65536 ∧ (∀ n ∈ c.2.2.2.2.2.1, 0 ≤ n ∧ n < 256)) (0, _, 0, _, [], [], 0) rfl rfl rfl lF ?kn ?kf ?kk ?kp ?turn ?done
  case kn => exact lN
  case kf => exact .nil
  case kk => kst_all
  case kp => simp [bst]
  case turn =>
    clear lF lN
    rintro ⟨lc, t1, lb, t2, vs, out, nn⟩ pre post b tb u h tk own hks hlen hb0 hb1 hoff hf ⟨hst, ho, hlb, h0, h1, hin⟩ F N
    dsimp only [kstB] at F hf ho hlb h0 h1 hst hin
    simp only [List.cons_append, List.nil_append] at N
    have hvl := IntsAre.length hf
    simp only [List.map_cons, List.map_nil] at hoff
    have hxl := KBw.ints_length x
    have kMark := kstMark
    k_with "state" => first | exact b2a_s0 hst ho hin | exact b2a_s2 hst ho hin | exact b2a_s4 hst ho hin
    rcases hlb with rfl | rfl | rfl
    all_goals ((try show wpAny _ _ _ _ _ _); (try k_fold); k_steps)
  case done =>
    clear lF lN
    rintro ⟨lc, t1, lb, t2, vs, out, nn⟩ u h tk hlen hf ⟨hst, ho, hlb, h0, h1, hin⟩ F N
    dsimp only [kstB] at F hf ho hlb h0 h1 hst hin
    have hvl := IntsAre.length hf
    have hxl := KBw.ints_length x
    have kMark := kstMark
    show wpAny _ _ _ _ _ _
    rcases hlb with rfl | rfl | rfl
    all_goals ((try k_fold); k_steps)
    all_goals (refine' hret _ _ _ (Fr.keep ?f) (bytes_ret ?e); (case f => k_asm); (case e => (rw [← hst]; simp [bfin, code, b64tab])))
end
section
set_option maxRecDepth 100000
open PySem PySem.W PySem.Spec PySem.Calls PyProof.Rows
theorem slot_translate : Slot "bytes" "translate" "bytes.translate" :=
  .of (owner := "bytes") (n := "translate") (by rw [typeLookup_type, builtinLookup_eq_fast]; kernel_rfl) (by decide +kernel) (by decide +kernel) (by decide +kernel)
    (by first | exact .inl (by decide +kernel) | exact .inr (by decide +kernel)) (by rw [isSubtype_type]; kernel_rfl)
theorem type_translate : typeOf (.builtin "bytes.translate") = pure (.type "method_descriptor") := by show builtinType _ = _; rw [builtinType_eq_fast]; kernel_rfl
theorem entry_translate : entryFor table "bytes.translate" = some Builtin.«bytes.translate» := entryFor_of_tree (by kernel_rfl)
theorem args_translate (a b : Value) : argsOk "bytes.translate" ⟨[a, b], []⟩ := by unfold argsOk; kernel_rfl
section
variable {prog : Program} {w : World} {A : Around} {E : Value → Shared → Prop} {s : Shared} {t u : Tok}
theorem method_translate {M : Model} {b : Array UInt8} {pl : Sem Bool} {Q : Value × List Value → Shared → Prop} (h : Q (.builtin "bytes.translate", [.bytes b t]) s) : wpAny M A (getMethod (.bytes b t) (Str.ofString "translate") pl) Q E s := by
  with_reducible exact KBd.method_of (.bytes b t) (typeIs_bytes _ _ _) slot_translate type_translate KBd.noRef h
end
theorem type_maketrans : typeOf (.builtin "bytes.maketrans") = pure (.type "builtin_function_or_method") := by show builtinType _ = _; rw [builtinType_eq_fast]; kernel_rfl
open PySem PySem.W PySem.Spec PySem.Calls PyProof.Rows
set_option maxHeartbeats 4000000 in
theorem typeOf_bytes : typeOf (.type "bytes") = pure (.type "type") := by first | rfl | kernel_rfl
set_option maxHeartbeats 4000000 in
theorem find_maketrans (P : Params) : findCls (Mine.hd.heap_39 P) (.type "bytes") (.type "type") (Str.ofString "maketrans") = some (.val (.builtin "bytes.maketrans")) := by kernel_rfl
theorem handed_maketrans : handedIn (.builtin "bytes.maketrans") = true := by first | rfl | decide +kernel
theorem entry_maketrans : entryFor table "bytes.maketrans" = some Builtin.«bytes.maketrans» := entryFor_of_tree (by kernel_rfl)
theorem check_maketrans (a b : Value) : checkBuiltinCall "bytes.maketrans" ⟨[a, b], []⟩ = pure () := by first | kernel_rfl | rfl
open PySem PySem.W PySem.Spec PySem.Calls PyProof.Rows
/-- the table that bytes.maketrans makes -/
def trTab (frm to : Array UInt8) : Array UInt8 := (frm.toList.zip to.toList).foldl (fun t (p : UInt8 × UInt8) => t.setIfInBounds p.1.toNat p.2) ((Array.range 256).map (·.toUInt8))
theorem trTab_size (frm to : Array UInt8) : (trTab frm to).size = 256 := by
  unfold trTab
  have : ∀ (l : List (UInt8 × UInt8)) (t : Array UInt8), t.size = 256 → (l.foldl (fun t (p : UInt8 × UInt8) => t.setIfInBounds p.1.toNat p.2) t).size = 256 := by
    intro l
    induction l with
    | nil => intro t h; exact h
    | cons p l ih => intro t h; exact ih _ (by simpa using h)
  exact this _ _ (by simp)
section
variable {prog : Program} {w : World} {A : Around} {E : Value → Shared → Prop} {s : Shared} {t u : Tok} {Q : Value → Shared → Prop}
theorem call_maketrans {x y : Array UInt8} (he : x.size = y.size) (h : Q (.bytes (trTab x y) s.toks) { s with toks := s.toks + 1 }) :
    wpAny (model prog w) A (call (.builtin "bytes.maketrans") [.bytes x t, .bytes y u]) Q E s := by
  refine wpAny_call (codeAny_call_builtin_at (Code.quiet_builtin _ (by decide +kernel)) entry_maketrans ?_)
  refine wpAny_of_eq (a := ()) (check_maketrans _ _) ?_
  unfold Builtin.«bytes.maketrans» Builtin.Bytes.maketransM
  refine wpAny_bind (wpAny_of_eq (a := ()) (by first | rfl | kernel_rfl) ?_)
  refine wpAny_bind (wpAny_of_eq (a := ()) (by first | rfl | kernel_rfl) ?_)
  refine wpAny_bind (wpAny_of_eq KBd.like_eq ?_)
  refine wpAny_bind (wpAny_of_eq KBd.like_eq ?_)
  refine KFB.if_not (by simp [he]) ?_
  refine wpAny_bind (wpAny_mkBytes ?_ (by show (trTab x y).size ≤ _; rw [trTab_size]; decide))
  exact wpAny_pure h
end
end
section
set_option maxRecDepth 100000
open PySem PySem.W PySem.Spec PySem.Calls PyProof.Rows
theorem wif_not {α : Type} {M : Model} {A : Around} {E : Value → Shared → Prop} {s : Shared} {c : Prop} [Decidable c] {a b : Sem α} {Q : α → Shared → Prop} (hc : ¬ c) (h : wpAny M A b Q E s) : wpAny M A (if c then a else b) Q E s := by
  rw [if_neg hc]; exact h
section
variable {prog : Program} {w : World} {A : Around} {E : Value → Shared → Prop} {s : Shared} {t u : Tok} {Q : Value → Shared → Prop}
def trOut (b tab : Array UInt8) : Array UInt8 := b.map fun c => tab.getD c.toNat c
theorem call_translate {b tab : Array UInt8} (ht : tab.size = 256) (hb : b.size ≤ 16777216) (h : ∀ t' k, Q (.bytes (trOut b tab) t') { s with toks := k }) :
    wpAny (model prog w) A (call (.builtin "bytes.translate") [.bytes b t, .bytes tab u]) Q E s := by
  refine call_meets (S := fun _ R s => ∀ t' k, R (.ok (.ret (.bytes (trOut b tab) t'))) { s with toks := k }) slot_translate (typeIs_bytes _ _ _) entry_translate (args_translate _ _) (.of_wp fun prog w A R s hS => ?_) h
  unfold Builtin.«bytes.translate» Builtin.Bytes.translateM
  dsimp only
  refine wif_not (by simp) ?_
  refine wif_not (by simp) ?_
  refine wif_not (by simp) ?_
  refine wpAny_bind (wpAny_of_eq KBd.like_eq ?_)
  refine wif_not (by simp [ht]) ?_
  refine wpAny_bind (wpAny_pure ?_)
  show wpAny _ _ (do
    let delete ← pure #[]
    let b_1 ← Builtin.Bytes.payload (Value.bytes b t)
    _) _ _ _
  refine wpAny_bind (wpAny_pure ?_)
  refine wpAny_bind (wpAny_of_eq (a := b) rfl ?_)
  have e : Array.map (fun c => tab.getD c.toNat c) (Array.filter (fun x => !(#[] : Array UInt8).contains x) b) = trOut b tab := by
    have e0 : Array.filter (fun x => !(#[] : Array UInt8).contains x) b = b := by
      rw [Array.filter_eq_self]; intro a _; simp
    rw [e0]; rfl
  have hsz : (trOut b tab).size ≤ sizeLine := by rw [sizeLine_eq]; simpa [trOut] using hb
  dsimp only
  rw [e]
  by_cases hq : (trOut b tab == b) = true
  · rw [if_pos hq]
    have e' : trOut b tab = b := by simpa using hq
    refine wpAny_bind (wpAny_rule ?_)
    refine wpAny_bind (wpAny_of_eq (a := .bytes b t) (by first | rfl | kernel_rfl) ?_)
    have := hS t s.toks
    rw [e'] at this
    exact wpAny_pure ⟨_, rfl, this⟩
  · rw [if_neg hq]
    refine wpAny_bind (m := mkBytes (trOut b tab)) (wpAny_mkBytes ?_ hsz)
    exact wpAny_pure ⟨_, rfl, hS _ _⟩
theorem stub_bytes : Manifest.isStub "bytes" = false := by decide +kernel
theorem getm_maketrans {h₀ : Heap} {L : Addr} {m : Str → Option Value} {pl : Sem Bool} {Q : Value × List Value → Shared → Prop} (F : Fr h₀ L s.heap m) (X₀ : (Mine.hd.heap_39 w.params).In h₀) (h : Q (.builtin "bytes.maketrans", []) { s with toks := s.toks + 1 }) :
    wpAny (model prog w) A (getMethod (.type "bytes") (Str.ofString "maketrans") pl) Q E s :=
  method_type (T := "bytes") (name := Str.ofString "maketrans") (v := .builtin "bytes.maketrans") (K := Mine.hd.heap_39 w.params) (Q := Q) F X₀ typeOf_bytes stub_bytes (find_maketrans w.params) handed_maketrans h
end
end
section
open PySem PySem.W PySem.Spec PySem.Calls PyProof.Rows
set_option maxRecDepth 100000 in
set_option maxHeartbeats 8000000 in
theorem enc_call (w : World) (x al : Array UInt8) (hx : x.size ≤ 12) (hal : al.size = 2) (t u : Tok) : Comes w 3 101 [.bytes x t, .bytes al u] [] (fun _ => True) (fun v _ _ => ∃ t', v = .bytes (trOut (byteArr (bfin (bst (KBw.bInts x)))) (trTab #[43, 47] al)) t') := by
  k_with_none
  k_with "MINE enter" => (
      w_on
      dsimp only [Comes, ComesE]
      k_fill
      intro mean mg mb dp un gd cn cs L a ccd cl outer base g gs dr tk os Q E XB TB B X T hL hk D hd hu hpre hret hexc
      refine wpAny_call ?_
      k_dflt (first
        | (refine' enter_plain ?k3 ?k5 ?k6 ?k7 ?k8 ?k9 ?kB ?_ ?c2 ?c3 ?c4 ?c5; (case k3 => k_asm); (case k5 => k_asm); (case k6 => k_is); (case k7 => k_is); (case k8 => first | exact room0 hd | exact room1 hd rfl | exact room2 hd rfl | exact room3 hd rfl | ktr_room); (case k9 => first | exact BindsTo.of_eq rfl | exact binds_K (by k_in) rfl (by k_is) rfl rfl rfl); (case c5 => decide); (case kB => exact locs rfl); (case c2 => exact rfl); (case c3 => exact rfl); (case c4 => exact rfl); k_whole; intro L' h' eL' F' N')
        | (refine' enter_cells ?k3 ?k5 ?k6 ?k7 ?k8 ?k9 ?kB ?kD ?_ ?c2 ?c3 ?c4; (case k3 => k_asm); (case k5 => k_asm); (case k6 => k_is); (case k7 => k_is); (case k8 => first | exact room0 hd | exact room1 hd rfl | exact room2 hd rfl | exact room3 hd rfl | ktr_room); (case k9 => first | exact BindsTo.of_eq rfl | exact binds_K (by k_in) rfl (by k_is) rfl rfl rfl); (case kB => exact rfl); (case kD => decide +kernel); (case c2 => exact rfl); (case c3 => exact rfl); (case c4 => exact rfl); k_whole; intro L' h' tk' cells' eL' F' N' Y'; k_cells Y'))
      (try dsimp only)
      (try k_fold))
  k_with "call type:type" => ((with_reducible show wpAny _ _ (call _ [Value.bytes _ _]) _ _ _); refine call_type_of (Tx := "bytes") rfl (by decide +kernel) ?_)
  k_with "call builtin:list.append" => (k_here; (show wpAny _ _ (call (Value.builtin "list.append") [Value.ref _, _]) _ _ _); k_dflt (refine' append_K ?k1 ?k2 ?k3 ?_ ?z; (case k1 => k_asm); (case k2 => k_asm); (case k3 => k_upd); (case z => size_fits); k_whole); intro h' F' N'; (try simp only [List.push_toArray] at N'); (try k_sweep))
  k_with "binaryOp BitAnd int int" => ((with_reducible show wpAny _ _ (binaryOp _ (Value.int _ _) (Value.int 63 _)) _ _ _); refine and_63 ?_)
  k_with "binaryOp BitAnd int int" => ((with_reducible show wpAny _ _ (binaryOp _ (Value.int _ _) (Value.int 15 _)) _ _ _); refine and_15 ?_)
  k_with "binaryOp BitAnd int int" => ((with_reducible show wpAny _ _ (binaryOp _ (Value.int _ _) (Value.int 3 _)) _ _ _); refine and_3 ?_)
  k_with "binaryOp BitAnd int int" => ((with_reducible show wpAny _ _ (binaryOp _ (Value.int _ _) (Value.int 65535 _)) _ _ _); refine and_65535 ?_)
  k_with "binaryOp BitOr int int" => ((with_reducible show wpAny _ _ (binaryOp _ (Value.int (_ * 2 ^ _) _) (Value.int _ _)) _ _ _); refine or_low (by first | omega | (simp; omega)) (by first | omega | (simp; omega)) (by first | omega | (simp; omega)) ?_)
  k_with "subscriptTail" => ((with_reducible show wpAny _ _ (subscriptTail _ _ (Value.bytes _ _) (Value.int _ _)) _ _ _); refine item_any (by first | decide | omega | (simp; omega)) (by first | omega | (simp; omega)) (by first | omega | (simp; omega)) ?_)
  k_with "call ref" => ((with_reducible show wpAny _ _ (call (Value.ref 93) [Value.bytes _ _] _) _ _ _); k_dflt (refine' comes_use (b2a_call _ _ (by assumption) _) ?k1 ?k2 ?k3 ?k4 ?k5 ?k6 ?kXB ?kTB ?kD ?k7 ?k8 ?k9 ?_; (case k1 => k_asm); (case k2 => k_asm); (case k3 => k_asm); (case k4 => k_asm); (case k5 => k_asm); (case kXB => assumption); (case kTB => assumption); (case kD => assumption); (case k6 => first | exact rfl | assumption); (case k7 => first | exact room0 hd | exact room1 hd rfl | exact room2 hd rfl | exact room3 hd rfl | ktr_room); (case k8 => first | exact room0 hu | exact room1 hu rfl | exact room2 hu rfl | exact room3 hu rfl | ktr_units); (case k9 => trivial); k_whole; (intro v' h' tk' hs' F' N' e'); (obtain ⟨t', e'⟩ := e'); (subst e'); (try dsimp only); (try k_sweep)))
  k_with "MINE size" => (rw [byteArr_size]; refine Nat.le_trans (bfin_len _) ?_; rw [KBw.ints_length]; omega)
  k_with "getMethod bytes" => (k_here; (with_reducible refine method_translate ?_))
  k_with "getMethod type:bytes" => (k_here; (with_reducible show wpAny _ _ (getMethod (Value.type "bytes") (Str.ofString "maketrans") _) _ _ _); k_dflt (refine' getm_maketrans ?F ?X ?_; (case F => k_asm); (case X => k_asm)))
  k_with "call builtin:bytes.maketrans" => (k_here; (show wpAny _ _ (call (Value.builtin "bytes.maketrans") [Value.bytes _ _, Value.bytes _ _]) _ _ _); refine call_maketrans (by first | (simp; omega) | (simp [*]; done)) ?_)
  k_with "call builtin:bytes.translate" => (k_here; (show wpAny _ _ (call (Value.builtin "bytes.translate") [Value.bytes _ _, Value.bytes _ _]) _ _ _); refine call_translate (trTab_size _ _) (by walk_at "MINE size") ?_; intro _ _)
  walk_at "MINE enter"
  k_steps
  all_goals first | (exfalso; omega) | skip
  all_goals (refine' hret _ _ _ (Fr.keep ?f) (bytes_ret ?e); (case f => k_asm); (case e => rfl))
end
section
open PySem PySem.W PySem.Spec PySem.Calls PyProof.Rows
theorem ite_miss {c : Prop} [Decidable c] {X Y : Prop} (hc : ¬ c) (h : Y) : if c then X else Y := by
  rw [if_neg hc]; exact h
set_option maxRecDepth 100000 in
set_option maxHeartbeats 8000000 in
theorem a2b_call (w : World) (x : Array UInt8) (figs : List Int) (k : Nat) (hf : ∀ f ∈ figs, 0 ≤ f ∧ f < 64) (hxs : KBw.bInts x = figs.map code ++ List.replicate k 61) (hn : figs.length ≤ 12) (hk4 : k ≤ 4) (t : Tok) (st : Bool)
    (hs : st = true → k = 0 ∨ (2 ≤ (dst figs).1 ∧ (dst figs).1 + k ≤ 4)) : ComesE w 2 85 [.bytes x t] [(Str.ofString "strict_mode", .bool st)] (fun _ => True) (fun v _ _ => ¬ ABad figs k ∧ ∃ t', v = .bytes (byteArr (dst figs).2.2) t') (ABad figs k) := by
  k_with_none
  k_with "MINE enter" => (
      w_on
      dsimp only [Comes, ComesE]
      k_fill
      intro mean mg mb dp un gd cn cs L a ccd cl outer base g gs dr tk os Q E XB TB B X T hL hk D hd hu hpre hret hexc
      refine wpAny_call ?_
      k_dflt (first
        | (refine' enter_plain ?k3 ?k5 ?k6 ?k7 ?k8 ?k9 ?kB ?_ ?c2 ?c3 ?c4 ?c5; (case k3 => k_asm); (case k5 => k_asm); (case k6 => k_is); (case k7 => k_is); (case k8 => first | exact room0 hd | exact room1 hd rfl | exact room2 hd rfl | exact room3 hd rfl | ktr_room); (case k9 => first | exact BindsTo.of_eq rfl | exact binds_K (by k_in) rfl (by k_is) rfl rfl rfl); (case c5 => decide); (case kB => exact locs rfl); (case c2 => exact rfl); (case c3 => exact rfl); (case c4 => exact rfl); k_whole; intro L' h' eL' F' N')
        | (refine' enter_cells ?k3 ?k5 ?k6 ?k7 ?k8 ?k9 ?kB ?kD ?_ ?c2 ?c3 ?c4; (case k3 => k_asm); (case k5 => k_asm); (case k6 => k_is); (case k7 => k_is); (case k8 => first | exact room0 hd | exact room1 hd rfl | exact room2 hd rfl | exact room3 hd rfl | ktr_room); (case k9 => first | exact BindsTo.of_eq rfl | exact binds_K (by k_in) rfl (by k_is) rfl rfl rfl); (case kB => exact rfl); (case kD => decide +kernel); (case c2 => exact rfl); (case c3 => exact rfl); (case c4 => exact rfl); k_whole; intro L' h' tk' cells' eL' F' N' Y'; k_cells Y'))
      (try dsimp only)
      (try k_fold))
  k_with "MINE enterT" => (
      w_on
      dsimp only [ComesT]
      k_fill
      intro mean mg mb dp un gd cn cs L a ccd cl outer base g gs dr tk os Q E XB TB B X T hL hk D hd hu hpre hret
      refine wpAny_call ?_
      k_dflt (first
        | (refine' enter_plain ?k3 ?k5 ?k6 ?k7 ?k8 ?k9 ?kB ?_ ?c2 ?c3 ?c4 ?c5; (case k3 => k_asm); (case k5 => k_asm); (case k6 => k_is); (case k7 => k_is); (case k8 => first | exact room0 hd | exact room1 hd rfl | exact room2 hd rfl | exact room3 hd rfl | ktr_room); (case k9 => first | exact BindsTo.of_eq rfl | exact binds_K (by k_in) rfl (by k_is) rfl rfl rfl); (case c5 => decide); (case kB => exact locs rfl); (case c2 => exact rfl); (case c3 => exact rfl); (case c4 => exact rfl); k_whole; intro L' h' eL' F' N')
        | (refine' enter_cells ?k3 ?k5 ?k6 ?k7 ?k8 ?k9 ?kB ?kD ?_ ?c2 ?c3 ?c4; (case k3 => k_asm); (case k5 => k_asm); (case k6 => k_is); (case k7 => k_is); (case k8 => first | exact room0 hd | exact room1 hd rfl | exact room2 hd rfl | exact room3 hd rfl | ktr_room); (case k9 => first | exact BindsTo.of_eq rfl | exact binds_K (by k_in) rfl (by k_is) rfl rfl rfl); (case kB => exact rfl); (case kD => decide +kernel); (case c2 => exact rfl); (case c3 => exact rfl); (case c4 => exact rfl); k_whole; intro L' h' tk' cells' eL' F' N' Y'; k_cells Y'))
      (try dsimp only)
      (try k_fold))
  k_with "call type:type" => ((with_reducible show wpAny _ _ (call _ [Value.bytes _ _]) _ _ _); refine call_type_of (Tx := "bytes") rfl (by decide +kernel) ?_)
  k_with "call builtin:list.append" => (k_here; (show wpAny _ _ (call (Value.builtin "list.append") [Value.ref _, _]) _ _ _); k_dflt (refine' append_K ?k1 ?k2 ?k3 ?_ ?z; (case k1 => k_asm); (case k2 => k_asm); (case k3 => k_upd); (case z => size_fits); k_whole); intro h' F' N'; (try simp only [List.push_toArray] at N'); (try k_sweep))
  k_with "binaryOp BitAnd int int" => ((with_reducible show wpAny _ _ (binaryOp _ (Value.int _ _) (Value.int 63 _)) _ _ _); refine and_63 ?_)
  k_with "binaryOp BitAnd int int" => ((with_reducible show wpAny _ _ (binaryOp _ (Value.int _ _) (Value.int 15 _)) _ _ _); refine and_15 ?_)
  k_with "binaryOp BitAnd int int" => ((with_reducible show wpAny _ _ (binaryOp _ (Value.int _ _) (Value.int 3 _)) _ _ _); refine and_3 ?_)
  k_with "binaryOp BitAnd int int" => ((with_reducible show wpAny _ _ (binaryOp _ (Value.int _ _) (Value.int 65535 _)) _ _ _); refine and_65535 ?_)
  k_with "binaryOp BitOr int int" => ((with_reducible show wpAny _ _ (binaryOp _ (Value.int (_ * 2 ^ _) _) (Value.int _ _)) _ _ _); refine or_low (by first | omega | (simp; omega)) (by first | omega | (simp; omega)) (by first | omega | (simp; omega)) ?_)
  k_with "subscriptTail" => ((with_reducible show wpAny _ _ (subscriptTail _ _ (Value.bytes _ _) (Value.int _ _)) _ _ _); refine item_any (by first | decide | omega | (simp; omega)) (by first | omega | (simp; omega)) (by first | omega | (simp; omega)) ?_)
  k_with "call ref" => ((with_reducible show wpAny _ _ (call (Value.ref 56) [Value.bytes _ _]) _ _ _); k_dflt (refine' comes_use (ascii_call _ _ _) ?k1 ?k2 ?k3 ?k4 ?k5 ?k6 ?kXB ?kTB ?kD ?k7 ?k8 ?k9 ?_; (case k1 => k_asm); (case k2 => k_asm); (case k3 => k_asm); (case k4 => k_asm); (case k5 => k_asm); (case kXB => assumption); (case kTB => assumption); (case kD => assumption); (case k6 => first | exact rfl | assumption); (case k7 => first | exact room0 hd | exact room1 hd rfl | exact room2 hd rfl | exact room3 hd rfl | ktr_room); (case k8 => first | exact room0 hu | exact room1 hu rfl | exact room2 hu rfl | exact room3 hu rfl | ktr_units); (case k9 => trivial); k_whole; (intro v' h' tk' hs' F' N' e'); (subst e'); (try dsimp only); (try k_sweep)))
  k_with "call ref" => ((with_reducible show wpAny _ _ (call (Value.ref 70) [Value.bool _]) _ _ _); k_dflt (refine' comes_use (truth_call _ _) ?k1 ?k2 ?k3 ?k4 ?k5 ?k6 ?kXB ?kTB ?kD ?k7 ?k8 ?k9 ?_; (case k1 => k_asm); (case k2 => k_asm); (case k3 => k_asm); (case k4 => k_asm); (case k5 => k_asm); (case kXB => assumption); (case kTB => assumption); (case kD => assumption); (case k6 => first | exact rfl | assumption); (case k7 => first | exact room0 hd | exact room1 hd rfl | exact room2 hd rfl | exact room3 hd rfl | ktr_room); (case k8 => first | exact room0 hu | exact room1 hu rfl | exact room2 hu rfl | exact room3 hu rfl | ktr_units); (case k9 => trivial); k_whole; (intro v' h' tk' hs' F' N' e'); (subst e'); (try dsimp only); (try k_sweep)))
  k_with "call ref" => ((with_reducible show wpAny _ _ (call (Value.ref 77) [Value.int _ _]) _ _ _); k_dflt (refine' comes_use (b64v_call _ _ _) ?k1 ?k2 ?k3 ?k4 ?k5 ?k6 ?kXB ?kTB ?kD ?k7 ?k8 ?k9 ?_; (case k1 => k_asm); (case k2 => k_asm); (case k3 => k_asm); (case k4 => k_asm); (case k5 => k_asm); (case kXB => assumption); (case kTB => assumption); (case kD => assumption); (case k6 => first | exact rfl | assumption); (case k7 => first | exact room0 hd | exact room1 hd rfl | exact room2 hd rfl | exact room3 hd rfl | ktr_room); (case k8 => first | exact room0 hu | exact room1 hu rfl | exact room2 hu rfl | exact room3 hu rfl | ktr_units); (case k9 => trivial); k_whole; (intro v' h' tk' hs' F' N' e'); (obtain ⟨t', e'⟩ := e'); (subst e'); (try dsimp only); (try k_sweep)))
  k_with "call type:bytes" => (k_here; (with_reducible show wpAny _ _ (call (Value.type "bytes") [Value.ref _]) _ _ _); k_dflt (refine' KBa.make_K ?kbaF ?kbaN ?kbah ?kbal ?kbai ?kbar ?kban ?_; (case kbaF => k_asm); (case kbaN => k_asm); (case kbah => rfl); (case kbal => kba_isList); (case kbai => first | k_intsEnd | kba_listInts); (case kbar => (repeat (first | assumption | refine in_snoc ?_ (by first | exact bget_in _ _ | decide)))); (case kban => first | kba_size | ((try simp only [List.length_append, List.length_cons, List.length_nil]); omega))); intro _ _ _ F' N' kbaIn)
  k_with "ite" => (with_reducible (first | refine ite_miss hneP ?_ | refine ite_miss hneB ?_ | refine ite_miss hn64 ?_))
  walk_at "MINE enter"
  k_steps
  rename_i l' _ _ _ _ _ _ _ lF lN
  with_unfolding_all refine' KStb.kst_bytes (σ := Int × Nat × Int × Nat × Int × Nat × Int × Nat × List Value × List Int × Nat) (fun c => [(l', listOf c.2.2.2.2.2.2.2.2.1.toArray c.2.2.2.2.2.2.2.2.2.2)]) (fun c => [(Str.ofString "quad_pos", .int c.1 c.2.1), (Str.ofString "leftchar", .int c.2.2.1 c.2.2.2.1), (Str.ofString "pads", .int c.2.2.2.2.1 c.2.2.2.2.2.1), (Str.ofString "i", .int c.2.2.2.2.2.2.1 c.2.2.2.2.2.2.2.1)]) (fun c => IntsAre c.2.2.2.2.2.2.2.2.1 c.2.2.2.2.2.2.2.2.2.1) [] (fun pre c => AOk figs pre.length c.1 c.2.2.1 c.2.2.2.2.1 c.2.2.2.2.2.2.2.2.2.1) (0, _, 0, _, 0, _, 0, _, [], [], 0) rfl rfl rfl lF ?kn ?kf ?kk ?kp ?turn ?done
  case kn => exact lN
  case kf => exact .nil
  case kk => kst_all
  case kp => simp [AOk, dst]
  case turn =>
    clear lF lN
    rintro ⟨q, tq, lc, tl, pd, tp, i, ti, vs, out, nn⟩ pre post b tb u h tk own hks hlen hb0 hb1 hoff hfa HA F N
    dsimp only [kstB] at F hfa HA
    have HA' := HA
    obtain ⟨hst, hpd, ho, hq, h0, h1, h2, h3, hin⟩ := HA'
    clear h2 h3 hin
    simp only [List.cons_append, List.nil_append] at N
    have hvl := IntsAre.length hfa
    simp only [List.map_cons, List.map_nil] at hoff
    have kMark := kstMark
    have hxl : (KBw.bInts x).length = figs.length + k := by rw [hxs, List.length_append, List.length_map, List.length_replicate]
    rw [hxs] at hks
    rcases a2b_at hf hks with ⟨f, htk, hbf, hf0, hf1, hj⟩ | ⟨hj, rfl, htk, htk2, hj2⟩
    · have hb61 : b ≠ 61 := hbf ▸ code_ne hf0 hf1
      have hneP : ¬ (decide (b = 61) = true) := fun e => hb61 (of_decide_eq_true e)
      have hbv : b64v b = f := by rw [hbf]; exact b64v_code hf0 hf1
      have hneB : ¬ ((b == 61) = true) := fun e => hb61 (eq_of_beq e)
      have hn64 : ¬ (decide (b64v b ≥ 64) = true) := fun e => absurd (of_decide_eq_true e) (hbv ▸ Int.not_le.mpr hf1)
      have hpd0 : pd = 0 := pd_zero hpd hj
      subst hpd0
      have hv12 : vs.length ≤ 12 := Nat.le_trans (Nat.le_of_eq hvl) (Nat.le_trans ho (Nat.le_trans (Nat.le_of_lt hj) hn))
      clear hvl hst hpd ho hxl hn hlen hb0 hb1 hks hk4
      k_with "state" => first | exact a2b_s0 (by assumption) HA htk hbv hf0 hf1 hj | exact a2b_s1 (by assumption) HA htk hbv hf0 hf1 hj | exact a2b_s2 (by assumption) HA htk hbv hf0 hf1 hj | exact a2b_s3 (hq3 hq (by assumption) (by assumption) (by assumption)) HA htk hbv hf0 hf1 hj
      (try show wpAny _ _ _ _ _ _); (try k_fold); k_steps
      all_goals (exfalso; omega)
    · have hst2 := hst
      rw [htk2] at hst2
      have hq2 : (dst figs).1 = q := by rw [← hst2]
      rw [hq2] at hs
      have hrm := fun h => pd_room hlen hpd hxl hj (hs h)
      clear hs hst hst2 hq2 hvl hpd ho hxl hn hlen hks hj2 hb0 hb1 hq hk4
      k_with "state" => exact a2b_sp HA htk htk2 hj
      cases st with
      | true =>
        obtain ⟨hqa, hqb⟩ := hrm rfl
        clear hrm
        (try show wpAny _ _ _ _ _ _); (try k_fold); k_steps
      | false =>
        clear hrm
        (try show wpAny _ _ _ _ _ _); (try k_fold); k_steps
  case done =>
    clear lF lN
    rintro ⟨q, tq, lc, tl, pd, tp, i, ti, vs, out, nn⟩ u h tk hlen hfa HA F N
    dsimp only [kstB] at F hfa HA
    obtain ⟨hst, hpd, ho, hq, h0, h1, h2, h3, hin⟩ := HA
    have hvl := IntsAre.length hfa
    have kMark := kstMark
    have hxl : (KBw.bInts x).length = figs.length + k := by rw [hxs, List.length_append, List.length_map, List.length_replicate]
    have hpd2 := pd_end hpd hxl
    subst hpd2
    have htk : figs.take (KBw.bInts x).length = figs := List.take_of_length_le (by rw [hxl]; exact Nat.le_add_right _ _)
    rw [htk] at hst
    have hqe : (dst figs).1 = q := by rw [← hst]
    have hoe : (dst figs).2.2 = out := by rw [← hst]
    have ho16 : out.length ≤ 16 := Nat.le_trans ho (by rw [hxl]; exact Nat.add_le_add hn hk4)
    have hv16 : vs.length ≤ 16 := by rw [hvl]; exact ho16
    clear hs hst htk hxl hvl ho hpd hn hlen hq h0 h1 h2 h3 hk4 hxs
    show wpAny _ _ _ _ _ _
    (try k_fold)
    k_steps
    all_goals first
      | (refine' hexc ?kmx _ _ _ _ _ ?kmr ?kmu; (case kmu => assumption); (case kmr => exact raisedS_drop (by assumption)); (case kmx => first | exact abad_1 hqe (by assumption) | exact abad_2 hqe (by assumption) (by assumption)))
      | (refine' hret _ _ _ (Fr.keep ?kmf) ⟨?kmb, bytes_ret ?kme⟩; (case kmf => k_asm); (case kmb => first | exact ngood_1 hqe (by assumption) (by assumption) | exact ngood_0 hqe (by assumption)); (case kme => rw [hoe]))
end
section
open PySem PySem.W PySem.Spec PySem.Calls PyProof.Rows
set_option maxRecDepth 100000 in
set_option maxHeartbeats 8000000 in
theorem dec_call (w : World) (x : Array UInt8) (figs : List Int) (k : Nat) (hf : ∀ f ∈ figs, 0 ≤ f ∧ f < 64) (hxs : KBw.bInts x = figs.map code ++ List.replicate k 61) (hn : figs.length ≤ 12) (hk : k ≤ 4) (t : Tok) (st : Bool)
    (hs : st = true → k = 0 ∨ (2 ≤ (dst figs).1 ∧ (dst figs).1 + k ≤ 4)) : ComesE w 3 109 [.bytes x t] [(Str.ofString "validate", .bool st)] (fun _ => True) (fun v _ _ => ¬ ABad figs k ∧ ∃ t', v = .bytes (byteArr (dst figs).2.2) t') (ABad figs k) := by
  k_with_none
  k_with "MINE enter" => (
      w_on
      dsimp only [Comes, ComesE]
      k_fill
      intro mean mg mb dp un gd cn cs L a ccd cl outer base g gs dr tk os Q E XB TB B X T hL hk D hd hu hpre hret hexc
      refine wpAny_call ?_
      k_dflt (first
        | (refine' enter_plain ?k3 ?k5 ?k6 ?k7 ?k8 ?k9 ?kB ?_ ?c2 ?c3 ?c4 ?c5; (case k3 => k_asm); (case k5 => k_asm); (case k6 => k_is); (case k7 => k_is); (case k8 => first | exact room0 hd | exact room1 hd rfl | exact room2 hd rfl | exact room3 hd rfl | ktr_room); (case k9 => first | exact BindsTo.of_eq rfl | exact binds_K (by k_in) rfl (by k_is) rfl rfl rfl); (case c5 => decide); (case kB => exact locs rfl); (case c2 => exact rfl); (case c3 => exact rfl); (case c4 => exact rfl); k_whole; intro L' h' eL' F' N')
        | (refine' enter_cells ?k3 ?k5 ?k6 ?k7 ?k8 ?k9 ?kB ?kD ?_ ?c2 ?c3 ?c4; (case k3 => k_asm); (case k5 => k_asm); (case k6 => k_is); (case k7 => k_is); (case k8 => first | exact room0 hd | exact room1 hd rfl | exact room2 hd rfl | exact room3 hd rfl | ktr_room); (case k9 => first | exact BindsTo.of_eq rfl | exact binds_K (by k_in) rfl (by k_is) rfl rfl rfl); (case kB => exact rfl); (case kD => decide +kernel); (case c2 => exact rfl); (case c3 => exact rfl); (case c4 => exact rfl); k_whole; intro L' h' tk' cells' eL' F' N' Y'; k_cells Y'))
      (try dsimp only)
      (try k_fold))
  k_with "MINE enterT" => (
      w_on
      dsimp only [ComesT]
      k_fill
      intro mean mg mb dp un gd cn cs L a ccd cl outer base g gs dr tk os Q E XB TB B X T hL hk D hd hu hpre hret
      refine wpAny_call ?_
      k_dflt (first
        | (refine' enter_plain ?k3 ?k5 ?k6 ?k7 ?k8 ?k9 ?kB ?_ ?c2 ?c3 ?c4 ?c5; (case k3 => k_asm); (case k5 => k_asm); (case k6 => k_is); (case k7 => k_is); (case k8 => first | exact room0 hd | exact room1 hd rfl | exact room2 hd rfl | exact room3 hd rfl | ktr_room); (case k9 => first | exact BindsTo.of_eq rfl | exact binds_K (by k_in) rfl (by k_is) rfl rfl rfl); (case c5 => decide); (case kB => exact locs rfl); (case c2 => exact rfl); (case c3 => exact rfl); (case c4 => exact rfl); k_whole; intro L' h' eL' F' N')
        | (refine' enter_cells ?k3 ?k5 ?k6 ?k7 ?k8 ?k9 ?kB ?kD ?_ ?c2 ?c3 ?c4; (case k3 => k_asm); (case k5 => k_asm); (case k6 => k_is); (case k7 => k_is); (case k8 => first | exact room0 hd | exact room1 hd rfl | exact room2 hd rfl | exact room3 hd rfl | ktr_room); (case k9 => first | exact BindsTo.of_eq rfl | exact binds_K (by k_in) rfl (by k_is) rfl rfl rfl); (case kB => exact rfl); (case kD => decide +kernel); (case c2 => exact rfl); (case c3 => exact rfl); (case c4 => exact rfl); k_whole; intro L' h' tk' cells' eL' F' N' Y'; k_cells Y'))
      (try dsimp only)
      (try k_fold))
  k_with "call type:type" => ((with_reducible show wpAny _ _ (call _ [Value.bytes _ _]) _ _ _); refine call_type_of (Tx := "bytes") rfl (by decide +kernel) ?_)
  k_with "call builtin:list.append" => (k_here; (show wpAny _ _ (call (Value.builtin "list.append") [Value.ref _, _]) _ _ _); k_dflt (refine' append_K ?k1 ?k2 ?k3 ?_ ?z; (case k1 => k_asm); (case k2 => k_asm); (case k3 => k_upd); (case z => size_fits); k_whole); intro h' F' N'; (try simp only [List.push_toArray] at N'); (try k_sweep))
  k_with "binaryOp BitAnd int int" => ((with_reducible show wpAny _ _ (binaryOp _ (Value.int _ _) (Value.int 63 _)) _ _ _); refine and_63 ?_)
  k_with "binaryOp BitAnd int int" => ((with_reducible show wpAny _ _ (binaryOp _ (Value.int _ _) (Value.int 15 _)) _ _ _); refine and_15 ?_)
  k_with "binaryOp BitAnd int int" => ((with_reducible show wpAny _ _ (binaryOp _ (Value.int _ _) (Value.int 3 _)) _ _ _); refine and_3 ?_)
  k_with "binaryOp BitAnd int int" => ((with_reducible show wpAny _ _ (binaryOp _ (Value.int _ _) (Value.int 65535 _)) _ _ _); refine and_65535 ?_)
  k_with "binaryOp BitOr int int" => ((with_reducible show wpAny _ _ (binaryOp _ (Value.int (_ * 2 ^ _) _) (Value.int _ _)) _ _ _); refine or_low (by first | omega | (simp; omega)) (by first | omega | (simp; omega)) (by first | omega | (simp; omega)) ?_)
  k_with "subscriptTail" => ((with_reducible show wpAny _ _ (subscriptTail _ _ (Value.bytes _ _) (Value.int _ _)) _ _ _); refine item_any (by first | decide | omega | (simp; omega)) (by first | omega | (simp; omega)) (by first | omega | (simp; omega)) ?_)
  k_with "call ref" => ((with_reducible show wpAny _ _ (call (Value.ref 36) [Value.bytes _ _]) _ _ _); k_dflt (refine' comes_use (fromDecode_call _ _ _) ?k1 ?k2 ?k3 ?k4 ?k5 ?k6 ?kXB ?kTB ?kD ?k7 ?k8 ?k9 ?_; (case k1 => k_asm); (case k2 => k_asm); (case k3 => k_asm); (case k4 => k_asm); (case k5 => k_asm); (case kXB => assumption); (case kTB => assumption); (case kD => assumption); (case k6 => first | exact rfl | assumption); (case k7 => first | exact room0 hd | exact room1 hd rfl | exact room2 hd rfl | exact room3 hd rfl | ktr_room); (case k8 => first | exact room0 hu | exact room1 hu rfl | exact room2 hu rfl | exact room3 hu rfl | ktr_units); (case k9 => trivial); k_whole; (intro v' h' tk' hs' F' N' e'); (subst e'); (try dsimp only); (try k_sweep)))
  k_with "call ref" => ((with_reducible show wpAny _ _ (call (Value.ref 85) [Value.bytes _ _] _) _ _ _); k_dflt (refine' comesE_use (a2b_call _ _ _ _ (by assumption) (by assumption) (by assumption) (by assumption) _ _ (by assumption)) ?k1 ?k2 ?k3 ?k4 ?k5 ?k6 ?kXB ?kTB ?kD ?k7 ?k8 ?k9 ?kgo ?kex; (case k1 => k_asm); (case k2 => k_asm); (case k3 => k_asm); (case k4 => k_asm); (case k5 => k_asm); (case kXB => assumption); (case kTB => assumption); (case kD => assumption); (case k6 => first | exact rfl | assumption); (case k7 => first | exact room0 hd | exact room1 hd rfl | exact room2 hd rfl | exact room3 hd rfl | ktr_room); (case k8 => first | exact room0 hu | exact room1 hu rfl | exact room2 hu rfl | exact room3 hu rfl | ktr_units); (case k9 => trivial); (case' kgo => ((intro v' h' tk' hs' F' N' e'); (obtain ⟨nb', t', e'⟩ := e'); (subst e'); (try dsimp only); (try k_sweep))); (case' kex => ((intro hX' e' t' vs' h' tk' R' U'); (try dsimp only at R' U' ⊢)))))
  walk_at "MINE enter"
  k_steps
  all_goals first
      | (refine' hexc ?kmx _ _ _ _ _ ?kmr ?kmu; (case kmu => assumption); (case kmr => exact raisedS_drop (by assumption)); (case kmx => assumption))
      | (refine' hret _ _ _ (Fr.keep ?kmf) ⟨?kmb, bytes_ret ?kme⟩; (case kmf => k_asm); (case kmb => assumption); (case kme => rfl))
end
section
open PySem PySem.W PySem.Spec PySem.Calls PyProof.Rows
set_option maxRecDepth 100000 in
set_option maxHeartbeats 8000000 in
theorem read_call (w : World) (x : Array UInt8) (figs : List Int) (k : Nat) (hf : ∀ f ∈ figs, 0 ≤ f ∧ f < 64) (hxs : KBw.bInts x = figs.map code ++ List.replicate k 61) (hn : figs.length ≤ 12) (hk : k ≤ 4) (t : Tok) (st : Bool)
    (hs : st = true → k = 0 ∨ (2 ≤ (dst figs).1 ∧ (dst figs).1 + k ≤ 4)) : ComesT w 4 136 [.bytes x t, .bool st] [] (fun _ => True) (fun v _ _ => (ABad figs k ∧ v = .none) ∨ (¬ ABad figs k ∧ ∃ t', v = .bytes (byteArr (dst figs).2.2) t')) := by
  k_with_none
  k_with "MINE enter" => (
      w_on
      dsimp only [Comes, ComesE]
      k_fill
      intro mean mg mb dp un gd cn cs L a ccd cl outer base g gs dr tk os Q E XB TB B X T hL hk D hd hu hpre hret hexc
      refine wpAny_call ?_
      k_dflt (first
        | (refine' enter_plain ?k3 ?k5 ?k6 ?k7 ?k8 ?k9 ?kB ?_ ?c2 ?c3 ?c4 ?c5; (case k3 => k_asm); (case k5 => k_asm); (case k6 => k_is); (case k7 => k_is); (case k8 => first | exact room0 hd | exact room1 hd rfl | exact room2 hd rfl | exact room3 hd rfl | ktr_room); (case k9 => first | exact BindsTo.of_eq rfl | exact binds_K (by k_in) rfl (by k_is) rfl rfl rfl); (case c5 => decide); (case kB => exact locs rfl); (case c2 => exact rfl); (case c3 => exact rfl); (case c4 => exact rfl); k_whole; intro L' h' eL' F' N')
        | (refine' enter_cells ?k3 ?k5 ?k6 ?k7 ?k8 ?k9 ?kB ?kD ?_ ?c2 ?c3 ?c4; (case k3 => k_asm); (case k5 => k_asm); (case k6 => k_is); (case k7 => k_is); (case k8 => first | exact room0 hd | exact room1 hd rfl | exact room2 hd rfl | exact room3 hd rfl | ktr_room); (case k9 => first | exact BindsTo.of_eq rfl | exact binds_K (by k_in) rfl (by k_is) rfl rfl rfl); (case kB => exact rfl); (case kD => decide +kernel); (case c2 => exact rfl); (case c3 => exact rfl); (case c4 => exact rfl); k_whole; intro L' h' tk' cells' eL' F' N' Y'; k_cells Y'))
      (try dsimp only)
      (try k_fold))
  k_with "MINE enterT" => (
      w_on
      dsimp only [ComesT]
      k_fill
      intro mean mg mb dp un gd cn cs L a ccd cl outer base g gs dr tk os Q E XB TB B X T hL hk D hd hu hpre hret
      refine wpAny_call ?_
      k_dflt (first
        | (refine' enter_plain ?k3 ?k5 ?k6 ?k7 ?k8 ?k9 ?kB ?_ ?c2 ?c3 ?c4 ?c5; (case k3 => k_asm); (case k5 => k_asm); (case k6 => k_is); (case k7 => k_is); (case k8 => first | exact room0 hd | exact room1 hd rfl | exact room2 hd rfl | exact room3 hd rfl | ktr_room); (case k9 => first | exact BindsTo.of_eq rfl | exact binds_K (by k_in) rfl (by k_is) rfl rfl rfl); (case c5 => decide); (case kB => exact locs rfl); (case c2 => exact rfl); (case c3 => exact rfl); (case c4 => exact rfl); k_whole; intro L' h' eL' F' N')
        | (refine' enter_cells ?k3 ?k5 ?k6 ?k7 ?k8 ?k9 ?kB ?kD ?_ ?c2 ?c3 ?c4; (case k3 => k_asm); (case k5 => k_asm); (case k6 => k_is); (case k7 => k_is); (case k8 => first | exact room0 hd | exact room1 hd rfl | exact room2 hd rfl | exact room3 hd rfl | ktr_room); (case k9 => first | exact BindsTo.of_eq rfl | exact binds_K (by k_in) rfl (by k_is) rfl rfl rfl); (case kB => exact rfl); (case kD => decide +kernel); (case c2 => exact rfl); (case c3 => exact rfl); (case c4 => exact rfl); k_whole; intro L' h' tk' cells' eL' F' N' Y'; k_cells Y'))
      (try dsimp only)
      (try k_fold))
  k_with "call type:type" => ((with_reducible show wpAny _ _ (call _ [Value.bytes _ _]) _ _ _); refine call_type_of (Tx := "bytes") rfl (by decide +kernel) ?_)
  k_with "call builtin:list.append" => (k_here; (show wpAny _ _ (call (Value.builtin "list.append") [Value.ref _, _]) _ _ _); k_dflt (refine' append_K ?k1 ?k2 ?k3 ?_ ?z; (case k1 => k_asm); (case k2 => k_asm); (case k3 => k_upd); (case z => size_fits); k_whole); intro h' F' N'; (try simp only [List.push_toArray] at N'); (try k_sweep))
  k_with "binaryOp BitAnd int int" => ((with_reducible show wpAny _ _ (binaryOp _ (Value.int _ _) (Value.int 63 _)) _ _ _); refine and_63 ?_)
  k_with "binaryOp BitAnd int int" => ((with_reducible show wpAny _ _ (binaryOp _ (Value.int _ _) (Value.int 15 _)) _ _ _); refine and_15 ?_)
  k_with "binaryOp BitAnd int int" => ((with_reducible show wpAny _ _ (binaryOp _ (Value.int _ _) (Value.int 3 _)) _ _ _); refine and_3 ?_)
  k_with "binaryOp BitAnd int int" => ((with_reducible show wpAny _ _ (binaryOp _ (Value.int _ _) (Value.int 65535 _)) _ _ _); refine and_65535 ?_)
  k_with "binaryOp BitOr int int" => ((with_reducible show wpAny _ _ (binaryOp _ (Value.int (_ * 2 ^ _) _) (Value.int _ _)) _ _ _); refine or_low (by first | omega | (simp; omega)) (by first | omega | (simp; omega)) (by first | omega | (simp; omega)) ?_)
  k_with "subscriptTail" => ((with_reducible show wpAny _ _ (subscriptTail _ _ (Value.bytes _ _) (Value.int _ _)) _ _ _); refine item_any (by first | decide | omega | (simp; omega)) (by first | omega | (simp; omega)) (by first | omega | (simp; omega)) ?_)
  k_with "call ref" => ((with_reducible show wpAny _ _ (call (Value.ref 109) [Value.bytes _ _] _) _ _ _); k_dflt (refine' comesE_use (dec_call _ _ _ _ (by assumption) (by assumption) (by assumption) (by assumption) _ _ (by assumption)) ?k1 ?k2 ?k3 ?k4 ?k5 ?k6 ?kXB ?kTB ?kD ?k7 ?k8 ?k9 ?kgo ?kex; (case k1 => k_asm); (case k2 => k_asm); (case k3 => k_asm); (case k4 => k_asm); (case k5 => k_asm); (case kXB => assumption); (case kTB => assumption); (case kD => assumption); (case k6 => first | exact rfl | assumption); (case k7 => first | exact room0 hd | exact room1 hd rfl | exact room2 hd rfl | exact room3 hd rfl | ktr_room); (case k8 => first | exact room0 hu | exact room1 hu rfl | exact room2 hu rfl | exact room3 hu rfl | ktr_units); (case k9 => trivial); (case' kgo => ((intro v' h' tk' hs' F' N' e'); (obtain ⟨nb', t', e'⟩ := e'); (subst e'); (try dsimp only); (try k_sweep))); (case' kex => ((intro hX' e' t' vs' h' tk' R' U'); (try dsimp only at R' U' ⊢)))))
  walk_at "MINE enterT"
  k_steps
  all_goals first
    | (refine' hret _ _ _ _ _ ?kmt (Fr.keep ?kmf) (fun x => x) (.inl ⟨?kmb, rfl⟩); (case kmf => k_asm); (case kmt => assumption); (case kmb => assumption))
    | (refine' hret _ _ _ _ _ KtsTurn.refl (Fr.keep ?kmf) (fun x => x) (.inr ⟨?kmb, bytes_ret ?kme⟩); (case kmf => k_asm); (case kmb => assumption); (case kme => rfl))
end
section
open PySem PySem.W PySem.Spec PySem.Calls PyProof.Rows
set_option maxRecDepth 100000 in
set_option maxHeartbeats 8000000 in
theorem oct_call (w : World) (l : Addr) (vs : List Value) (ns : List Int) (hi : IntsAre vs ns) (hn : ∀ n ∈ ns, 0 ≤ n ∧ n < 64) (hl : ns.length ≤ 12) : Comes w 1 114 [.ref l] [] (fun g => g.IsList l vs.toArray) (fun v _ _ => ∃ t', v = .bytes (byteArr (octs ns)) t') := by
  k_with_none
  k_with "MINE enter" => (
      w_on
      dsimp only [Comes, ComesE]
      k_fill
      intro mean mg mb dp un gd cn cs L a ccd cl outer base g gs dr tk os Q E XB TB B X T hL hk D hd hu hpre hret hexc
      refine wpAny_call ?_
      k_dflt (first
        | (refine' enter_plain ?k3 ?k5 ?k6 ?k7 ?k8 ?k9 ?kB ?_ ?c2 ?c3 ?c4 ?c5; (case k3 => k_asm); (case k5 => k_asm); (case k6 => k_is); (case k7 => k_is); (case k8 => first | exact room0 hd | exact room1 hd rfl | exact room2 hd rfl | exact room3 hd rfl | ktr_room); (case k9 => first | exact BindsTo.of_eq rfl | exact binds_K (by k_in) rfl (by k_is) rfl rfl rfl); (case c5 => decide); (case kB => exact locs rfl); (case c2 => exact rfl); (case c3 => exact rfl); (case c4 => exact rfl); k_whole; intro L' h' eL' F' N')
        | (refine' enter_cells ?k3 ?k5 ?k6 ?k7 ?k8 ?k9 ?kB ?kD ?_ ?c2 ?c3 ?c4; (case k3 => k_asm); (case k5 => k_asm); (case k6 => k_is); (case k7 => k_is); (case k8 => first | exact room0 hd | exact room1 hd rfl | exact room2 hd rfl | exact room3 hd rfl | ktr_room); (case k9 => first | exact BindsTo.of_eq rfl | exact binds_K (by k_in) rfl (by k_is) rfl rfl rfl); (case kB => exact rfl); (case kD => decide +kernel); (case c2 => exact rfl); (case c3 => exact rfl); (case c4 => exact rfl); k_whole; intro L' h' tk' cells' eL' F' N' Y'; k_cells Y'))
      (try dsimp only)
      (try k_fold))
  k_with "MINE enterT" => (
      w_on
      dsimp only [ComesT]
      k_fill
      intro mean mg mb dp un gd cn cs L a ccd cl outer base g gs dr tk os Q E XB TB B X T hL hk D hd hu hpre hret
      refine wpAny_call ?_
      k_dflt (first
        | (refine' enter_plain ?k3 ?k5 ?k6 ?k7 ?k8 ?k9 ?kB ?_ ?c2 ?c3 ?c4 ?c5; (case k3 => k_asm); (case k5 => k_asm); (case k6 => k_is); (case k7 => k_is); (case k8 => first | exact room0 hd | exact room1 hd rfl | exact room2 hd rfl | exact room3 hd rfl | ktr_room); (case k9 => first | exact BindsTo.of_eq rfl | exact binds_K (by k_in) rfl (by k_is) rfl rfl rfl); (case c5 => decide); (case kB => exact locs rfl); (case c2 => exact rfl); (case c3 => exact rfl); (case c4 => exact rfl); k_whole; intro L' h' eL' F' N')
        | (refine' enter_cells ?k3 ?k5 ?k6 ?k7 ?k8 ?k9 ?kB ?kD ?_ ?c2 ?c3 ?c4; (case k3 => k_asm); (case k5 => k_asm); (case k6 => k_is); (case k7 => k_is); (case k8 => first | exact room0 hd | exact room1 hd rfl | exact room2 hd rfl | exact room3 hd rfl | ktr_room); (case k9 => first | exact BindsTo.of_eq rfl | exact binds_K (by k_in) rfl (by k_is) rfl rfl rfl); (case kB => exact rfl); (case kD => decide +kernel); (case c2 => exact rfl); (case c3 => exact rfl); (case c4 => exact rfl); k_whole; intro L' h' tk' cells' eL' F' N' Y'; k_cells Y'))
      (try dsimp only)
      (try k_fold))
  k_with "call type:type" => ((with_reducible show wpAny _ _ (call _ [Value.bytes _ _]) _ _ _); refine call_type_of (Tx := "bytes") rfl (by decide +kernel) ?_)
  k_with "inplaceOp FloorDiv int int" => ((with_reducible show wpAny _ _ (inplaceOp _ (Value.int _ _) (Value.int (2 ^ Int.toNat (Int.fmod _ 8)) _)) _ _ _); refine idiv_p2 ?_)
  k_with "binaryOp Pow int int" => (k_here; (with_reducible refine pow_int_small ?kb1 ?kb2 ?kb3 ?_); (case kb2 => exact kkM (c := 9) hfd1 rfl (by assumption)); (case kb1 => l_bnd); (case kb3 => decide))
  k_with "binaryOp FloorDiv int int" => ((with_reducible show wpAny _ _ (binaryOp _ (Value.int _ _) (Value.int (_ ^ _) _)) _ _ _); refine div_pow (by decide) (by decide) (by first | exact kk32 (c := 9) hfd1 rfl (by assumption) | omega | ((try k_fmods); omega) | ((try law_fm); omega)) ?_)
  k_with "call type:bytes" => (k_here; (with_reducible show wpAny _ _ (call (Value.type "bytes") [Value.ref _]) _ _ _); k_dflt (refine' KBa.make_K ?kbaF ?kbaN ?kbah ?kbal ?kbai ?kbar ?kban ?_; (case kbaF => k_asm); (case kbaN => k_asm); (case kbah => rfl); (case kbal => kba_isList); (case kbai => assumption); (case kbar => exact revmod_in _ _); (case kban => first | kba_size | ((simp only [List.length_reverse, List.length_map, rangeKs_length]); omega))); intro _ _ _ F' N' kbaIn)
  walk_at "MINE enter"
  k_steps
  rename_i o1 d1 h2 o2 F N d2
  with_unfolding_all refine' For_invVF F ?k1 ?k2 ?_
  case k1 => exact rfl
  case k2 => exact rfl
  k_fold
  k_steps
  with_unfolding_all refine' kst_list (σ := Obj × Int × Nat) (fun c => [(L' + 1, c.1)]) (fun c => []) (fun c => c.1.data = Data.cell (some (.int c.2.1 c.2.2))) [] (fun pre c => c.2.1 = val 64 pre) (o2, 0, _) rfl hpre hi F N ?kf ?kk ?kp ?turn ?done
  case kf => exact d2
  case kk => simp
  case kp => rfl
  case turn =>
    clear F N
    rintro ⟨o, v, tv⟩ pre post n t u h tk own hks hm hoff hfa hP F N
    dsimp only [kstB] at F hfa hP
    simp only [List.cons_append, List.nil_append] at N
    simp only [List.map_cons, List.map_nil] at hoff
    have kMark := kstMark
    show wpAny _ _ _ _ _ _
    (try k_fold)
    k_steps
    rename_i o9 F9 N9 d9
    exact kst_end ⟨_, _, _⟩ F9 N9 (by kst_in) (by intro p hp; kst_mem) rfl d9 (by simp) (by kst_same) (by show _ = _; rw [val_snoc, ← hP])
  case done =>
    clear F N
    rintro ⟨o, v, tv⟩ u h tk hfa hP F N
    dsimp only [kstB] at F hfa hP
    have kMark := kstMark
    have hvl := IntsAre.length hi
    have hb := val_le (b := 64) (by decide) hn hl
    rw [← hP] at hb
    have hfd : 0 ≤ ((ns.length : Int) * 3).fdiv 4 ∧ ((ns.length : Int) * 3).fdiv 4 ≤ 9 := by rw [Int.fdiv_eq_ediv_of_nonneg _ (by omega)]; omega
    obtain ⟨hfd0, hfd1⟩ := hfd
    show wpAny _ _ _ _ _ _
    (try k_fold)
    k_steps
    all_goals (refine' hret _ _ _ (Fr.keep ?kmf) (bytes_ret ?kme); (case kmf => k_asm); (case kme => (rw [hP]; rfl)))
end
section
open PySem PySem.W PySem.Calls PyProof.Rows
theorem p2_tab9 : ∀ k : Fin 9, 0 < (2 : Int) ^ k.val ∧ (2 : Int) ^ k.val ≤ 256 := by decide
theorem p2_le {k : Nat} (h : k ≤ 8) : 0 < (2 : Int) ^ k ∧ (2 : Int) ^ k ≤ 256 := by
  exact p2_tab9 ⟨k, Nat.lt_succ_of_le h⟩
section
variable {prog : Program} {w : World} {A : Around} {E : Value → Shared → Prop} {s : Shared} {Q : Value → Shared → Prop} {a b : Int} {k : Nat} {t u : Tok}
theorem imul_p2 {k : Nat} (hk : k ≤ 8) (h : Q (.int (a * 2 ^ k) s.toks) { s with toks := s.toks + 1 }) : wpAny (model prog w) A (inplaceOp .Mult (.int a t) (.int (2 ^ k) u)) Q E s :=
  imul_int h (IntMulOk.of_right (intBits_le_64 (Int.lt_trans (by decide) (p2_le hk).1) (Int.lt_of_le_of_lt (p2_le hk).2 (by decide))))
end
open PySem PySem.W PySem.Calls PyProof.Rows
/-- what _law_shown makes of octets -/
def shown (bs : List Int) : List Int :=
  ((rangeKs 0 (((bs.length : Int) * 4 + 2).fdiv 3 - 0).toNat).map fun k' => ((val 256 bs * 2 ^ (((bs.length : Int) * 4 + 2).fdiv 3 * 6 - (bs.length : Int) * 8).toNat).fdiv (64 ^ k'.toNat)).fmod 64).reverse ++ (List.replicate ((-((bs.length : Int) * 4 + 2).fdiv 3).fmod 4).toNat [64]).flatten
/-- a new list of these ints -/
def ListOut (ns : List Int) (v : Value) (g h' : Heap) : Prop := ∃ D vs n, v = .ref D ∧ h'.get? D = some (listOf (List.toArray vs) n) ∧ g.get? D = none ∧ IntsAre vs ns
theorem listOut_of {g h : Heap} {L D : Addr} {vs : List Value} {n : Nat} {ns : List Int} {news : List (Addr × Obj)} (N : News g L h ((D, listOf vs.toArray n) :: news)) (hi : IntsAre vs ns) : ListOut ns (.ref D) g h :=
  ⟨D, vs, n, rfl, N.get (.head _), (N _ (.head _)).2.2, hi⟩
end
section
open PySem PySem.W PySem.Spec PySem.Calls PyProof.Rows
set_option maxRecDepth 100000 in
set_option maxHeartbeats 8000000 in
theorem shown_call (w : World) (x : Array UInt8) (hx : x.size ≤ 9) (t : Tok) : Comes w 1 119 [.bytes x t] [] (fun _ => True) (fun v g h' => ListOut (shown (KBw.bInts x)) v g h') := by
  k_with_none
  k_with "MINE enter" => (
      w_on
      dsimp only [Comes, ComesE]
      k_fill
      intro mean mg mb dp un gd cn cs L a ccd cl outer base g gs dr tk os Q E XB TB B X T hL hk D hd hu hpre hret hexc
      refine wpAny_call ?_
      k_dflt (first
        | (refine' enter_plain ?k3 ?k5 ?k6 ?k7 ?k8 ?k9 ?kB ?_ ?c2 ?c3 ?c4 ?c5; (case k3 => k_asm); (case k5 => k_asm); (case k6 => k_is); (case k7 => k_is); (case k8 => first | exact room0 hd | exact room1 hd rfl | exact room2 hd rfl | exact room3 hd rfl | ktr_room); (case k9 => first | exact BindsTo.of_eq rfl | exact binds_K (by k_in) rfl (by k_is) rfl rfl rfl); (case c5 => decide); (case kB => exact locs rfl); (case c2 => exact rfl); (case c3 => exact rfl); (case c4 => exact rfl); k_whole; intro L' h' eL' F' N')
        | (refine' enter_cells ?k3 ?k5 ?k6 ?k7 ?k8 ?k9 ?kB ?kD ?_ ?c2 ?c3 ?c4; (case k3 => k_asm); (case k5 => k_asm); (case k6 => k_is); (case k7 => k_is); (case k8 => first | exact room0 hd | exact room1 hd rfl | exact room2 hd rfl | exact room3 hd rfl | ktr_room); (case k9 => first | exact BindsTo.of_eq rfl | exact binds_K (by k_in) rfl (by k_is) rfl rfl rfl); (case kB => exact rfl); (case kD => decide +kernel); (case c2 => exact rfl); (case c3 => exact rfl); (case c4 => exact rfl); k_whole; intro L' h' tk' cells' eL' F' N' Y'; k_cells Y'))
      (try dsimp only)
      (try k_fold))
  k_with "MINE enterT" => (
      w_on
      dsimp only [ComesT]
      k_fill
      intro mean mg mb dp un gd cn cs L a ccd cl outer base g gs dr tk os Q E XB TB B X T hL hk D hd hu hpre hret
      refine wpAny_call ?_
      k_dflt (first
        | (refine' enter_plain ?k3 ?k5 ?k6 ?k7 ?k8 ?k9 ?kB ?_ ?c2 ?c3 ?c4 ?c5; (case k3 => k_asm); (case k5 => k_asm); (case k6 => k_is); (case k7 => k_is); (case k8 => first | exact room0 hd | exact room1 hd rfl | exact room2 hd rfl | exact room3 hd rfl | ktr_room); (case k9 => first | exact BindsTo.of_eq rfl | exact binds_K (by k_in) rfl (by k_is) rfl rfl rfl); (case c5 => decide); (case kB => exact locs rfl); (case c2 => exact rfl); (case c3 => exact rfl); (case c4 => exact rfl); k_whole; intro L' h' eL' F' N')
        | (refine' enter_cells ?k3 ?k5 ?k6 ?k7 ?k8 ?k9 ?kB ?kD ?_ ?c2 ?c3 ?c4; (case k3 => k_asm); (case k5 => k_asm); (case k6 => k_is); (case k7 => k_is); (case k8 => first | exact room0 hd | exact room1 hd rfl | exact room2 hd rfl | exact room3 hd rfl | ktr_room); (case k9 => first | exact BindsTo.of_eq rfl | exact binds_K (by k_in) rfl (by k_is) rfl rfl rfl); (case kB => exact rfl); (case kD => decide +kernel); (case c2 => exact rfl); (case c3 => exact rfl); (case c4 => exact rfl); k_whole; intro L' h' tk' cells' eL' F' N' Y'; k_cells Y'))
      (try dsimp only)
      (try k_fold))
  k_with "call type:type" => ((with_reducible show wpAny _ _ (call _ [Value.bytes _ _]) _ _ _); refine call_type_of (Tx := "bytes") rfl (by decide +kernel) ?_)
  k_with "inplaceOp FloorDiv int int" => ((with_reducible show wpAny _ _ (inplaceOp _ (Value.int _ _) (Value.int (2 ^ Int.toNat (Int.fmod _ 8)) _)) _ _ _); refine idiv_p2 ?_)
  k_with "binaryOp Pow int int" => (k_here; (with_reducible refine pow_int_small ?kb1 ?kb2 ?kb3 ?_); (case kb2 => exact kkM (c := 12) hc1 rfl (by assumption)); (case kb1 => l_bnd); (case kb3 => decide))
  k_with "binaryOp FloorDiv int int" => ((with_reducible show wpAny _ _ (binaryOp _ (Value.int _ _) (Value.int (_ ^ _) _)) _ _ _); refine div_pow (by decide) (by decide) (by first | exact kk32 (c := 12) hc1 rfl (by assumption) | omega | ((try k_fmods); omega) | ((try law_fm); omega)) ?_)
  k_with "inplaceOp Mult int int" => ((with_reducible show wpAny _ _ (inplaceOp _ (Value.int _ _) (Value.int (2 ^ _) _)) _ _ _); refine imul_p2 (by omega) ?_)
  walk_at "MINE enter"
  k_steps
  rename News _ _ _ _ => lN
  rename Fr _ _ _ _ => lF
  rename (Obj.data _ = Data.cell (some _)) => d2
  with_unfolding_all refine' KStb.kst_bytes (σ := Obj × Int × Nat) (fun c => [(L' + 1, c.1)]) (fun c => []) (fun c => c.1.data = Data.cell (some (.int c.2.1 c.2.2))) [] (fun pre c => c.2.1 = val 256 pre) (_, 0, _) rfl rfl rfl lF ?kn ?kf ?kk ?kp ?turn ?done
  case kn => exact lN
  case kf => exact d2
  case kk => simp
  case kp => rfl
  case turn =>
    clear lF lN
    rintro ⟨o, v, tv⟩ pre post n t u h tk own hks hm hb0 hb1 hoff hfa hP F N
    dsimp only [kstB] at F hfa hP
    simp only [List.cons_append, List.nil_append] at N
    simp only [List.map_cons, List.map_nil] at hoff
    have kMark := kstMark
    show wpAny _ _ _ _ _ _
    (try k_fold)
    k_steps
    rename_i o9 F9 N9 d9
    exact kst_end ⟨_, _, _⟩ F9 N9 (by kst_in) (by intro p hp; kst_mem) rfl d9 (by simp) (by kst_same) (by show _ = _; rw [val_snoc, ← hP])
  case done =>
    clear lF lN
    rintro ⟨o, v, tv⟩ u h tk hll hfa hP F N
    dsimp only [kstB] at F hfa hP
    have kMark := kstMark
    have hxl := KBw.ints_length x
    have hbb : ∀ n ∈ KBw.bInts x, 0 ≤ n ∧ n < 256 := fun n hn => KBw.ints_in hn
    have hb := val_le (b := 256) (by decide) hbb (k := 9) (by rw [hxl]; exact hx)
    rw [← hP] at hb
    have hc : ((x.size : Int) * 4 + 2).fdiv 3 = (x.size * 4 + 2) / 3 := Int.fdiv_eq_ediv_of_nonneg _ (by decide)
    have hc0 : 0 ≤ ((x.size : Int) * 4 + 2).fdiv 3 := by omega
    have hc1 : ((x.size : Int) * 4 + 2).fdiv 3 ≤ 12 := by omega
    have he0 : 0 ≤ ((x.size : Int) * 4 + 2).fdiv 3 * 6 - (x.size : Int) * 8 := by omega
    have he1 : ((x.size : Int) * 4 + 2).fdiv 3 * 6 - (x.size : Int) * 8 ≤ 4 := by omega
    clear hc
    show wpAny _ _ _ _ _ _
    (try k_fold)
    k_steps
    rename News _ _ _ _ => N9
    rename Fr _ _ _ _ => F9
    rename IntsAre _ _ => I9
    refine hret _ _ _ (Fr.keep F9) (listOut_of N9 ?_)
    unfold shown
    rw [hxl, ← hP]
    exact I9
end
section
open PySem PySem.W PySem.Spec PySem.Calls PyProof.Rows
section
variable {M : Model} {A : Around} {R : GenEnd} {Y : Protocol} {n : Nat} {s₀ : Shared} {c : Code} {fs : List Frame} {s : Shared} {env : Env}
  {K : Flow → Sem Fin} {H : Value → Sem Fin} {gd : Bool → Bool} {lv : List Value → List Value}
theorem seg_If {test : Expr} {body orelse : List Stmt} {pos : Pos}
    (h : wpAny M (A.over c fs) (isTrue test env (eval test env)) (fun b s' =>
        if b = true then Seg M A R Y n s₀ c ((execs body env).wrap K H gd lv) fs s' else Seg M A R Y n s₀ c ((execs orelse env).wrap K H gd lv) fs s')
      (fun x s' => Seg M A R Y n s₀ c (H x) fs s') s) :
    Seg M A R Y n s₀ c ((exec (.If test body orelse pos) env).wrap K H gd lv) fs s := by
  rw [exec_If]
  refine seg_bind_wrap (wpAny_standAt ?_)
  refine seg_bind_wrap (wpAny_mono h (fun b s' hb => ?_) fun _ _ x => x)
  cases b with
  | true => rw [if_pos rfl] at hb ⊢; exact hb
  | false => rw [if_neg Bool.false_ne_true] at hb ⊢; exact hb
theorem seg_plain {st : Stmt} (h : wpAny M (A.over c fs) (exec st env) (fun f s' => Seg M A R Y n s₀ c (K f) fs s') (fun x s' => Seg M A R Y n s₀ c (H x) fs s') s) :
    Seg M A R Y n s₀ c ((exec st env).wrap K H gd lv) fs s := seg_wrap h
/-- what stands below a loop's code in a generator's frame -/
abbrev loopK (env : Env) (K : Flow → Sem Fin) (H : Value → Sem Fin) (gd : Bool → Bool) (lv : List Value → List Value) : Result → Sem Fin := fun r =>
  ((match r with | .ok f => (.pure f : Sem Flow) | .error e => .raise e).onRaise fun (x : Value) => do
        if (← field x 1) == Value.none then unsupported "frame.own-activation:exception-without-traceback"
        setFlight x env.frame).wrap K H gd lv
theorem seg_For {target iter : Expr} {body orelse : List Stmt} {pos : Pos}
    (h : wpAny M (A.over c fs) (eval iter env) (fun x s₁ => wpAny M (A.over c fs) (pyIter x) (fun it s₂ => ∀ p, Seg M A R Y n s₀ (.forLoop target it body orelse env) (M.den (.forLoop target it body orelse env))
      (.ret (loopK env K H gd lv) none (gd false) (lv []) c p [] :: fs) s₂) (fun x s' => Seg M A R Y n s₀ c (H x) fs s') s₁) (fun x s' => Seg M A R Y n s₀ c (H x) fs s') s)
    (hs : ∀ x, foldedSetIterable iter env x = pure x := by intro _; rfl) :
    Seg M A R Y n s₀ c ((exec (.For target iter body orelse pos) env).wrap K H gd lv) fs s := by
  rw [exec_For]
  refine seg_bind_wrap (wpAny_standAt ?_)
  refine seg_bind_wrap (wpAny_mono h (fun x s₁ h₁ => ?_) fun _ _ x => x)
  rw [hs]
  refine seg_bind_wrap (wpAny_pure ?_)
  refine seg_bind_wrap (wpAny_standAt ?_)
  refine seg_bind_wrap (wpAny_holding (wpAny_mono h₁ (fun it s₂ h₂ => ?_) fun _ _ x => x))
  exact seg_call h₂
end
section
variable {prog : Program} {w : World} {A : Around} {R : GenEnd} {Y : Protocol} {n : Nat} {s₀ : Shared} {fs : List Frame} {s : Shared} {env : Env}
abbrev notedK (env : Env) : Value → Sem Fin := fun e => (do noteFrame e env; theTreesLotGoes e : Sem Unit).wrap (fun _ => .raise e) .raise id id
theorem seg_forLoop {target : Expr} {it : Value} {body orelse : List Stmt}
    (h : wpAny (model prog w) (A.over (.forLoop target it body orelse env) fs) (pyNext it) (fun r s₁ => match r with
        | none => Seg (model prog w) A R Y n s₀ (.block orelse env) ((model prog w).den (.block orelse env)) fs s₁
        | some v => wpAny (model prog w) (A.over (.forLoop target it body orelse env) fs) (letOwnedTupleGo target it v) (fun _ s₂ =>
            wpAny (model prog w) (A.over (.forLoop target it body orelse env) fs) (assign target env v) (fun _ s₃ =>
              Seg (model prog w) A R Y n s₀ (.forLoop target it body orelse env) ((execs body env).wrap (fun f => match f with
                | .next | .cont => .pure (.again (.forLoop target it body orelse env))
                | .brk => .pure (.done .next)
                | .ret v => .pure (.done (.ret v))) (notedK env) id id) fs s₃)
              (fun x s' => Seg (model prog w) A R Y n s₀ (.forLoop target it body orelse env) (notedK env x) fs s') s₂)
            (fun x s' => Seg (model prog w) A R Y n s₀ (.forLoop target it body orelse env) (notedK env x) fs s') s₁)
      (fun x s' => Seg (model prog w) A R Y n s₀ (.forLoop target it body orelse env) (notedK env x) fs s') s) :
    Seg (model prog w) A R Y n s₀ (.forLoop target it body orelse env) ((model prog w).den (.forLoop target it body orelse env)) fs s := by
  show Seg _ A R Y n s₀ _ ((forTurn target it body orelse env).onRaise (fun x => do noteFrame x env; theTreesLotGoes x)) fs s
  unfold forTurn
  rw [Sem.onRaise_eq_wrap]
  have hN : ∀ e, ((do noteFrame e env; theTreesLotGoes e : Sem Unit).bind fun _ => (.raise e : Sem Fin)) = notedK env e := fun e => Sem.bind_eq_wrap _ _
  simp only [hN]
  refine seg_bind_wrap (wpAny_standAt ?_)
  refine seg_bind_wrap (wpAny_onRaise (wpAny_mono h (fun r s₁ h₁ => ?_) fun x s' h' => wpAny_standAt h'))
  cases r with
  | none => exact seg_again rfl h₁
  | some v =>
    refine seg_bind_wrap (wpAny_mono h₁ (fun _ s₂ h₂ => ?_) fun _ _ x => x)
    refine seg_bind_wrap (wpAny_mono h₂ (fun _ s₃ h₃ => ?_) fun _ _ x => x)
    rw [Sem.bind_eq_wrap', Sem.wrap_wrap]
    rw [Sem.wrap_congr (execs body env) _ _ (K' := fun f => match f with
            | .next | .cont => .pure (.again (.forLoop target it body orelse env))
            | .brk => .pure (.done .next)
            | .ret v => .pure (.done (.ret v))) (H := fun e => Sem.wrap Sem.pure (fun e => notedK env e) id id (Sem.raise e)) (H' := notedK env)
        (fun f => by cases f <;> rfl) (fun e => rfl)]
    exact h₃
theorem seg_block_nil (h : Seg (model prog w) A R Y n s₀ (.block [] env) (.pure (.done .next)) fs s) :
    Seg (model prog w) A R Y n s₀ (.block [] env) ((model prog w).den (.block [] env)) fs s := h
end
end
section
open PySem PySem.W PySem.Spec PySem.Calls PyProof.Rows
/-- what a step of the walk over sizes gives -/
inductive GRes where
  | val (x : Int)
  | stop
  | bad
/-- a size that ends the plain walk -/
def isStop (b : Int) : Bool := b == 127 || b == 0
/-- the i-th step of the walk, the earlier ones having told a size -/
def gnext (bs : List Int) (i : Nat) : GRes :=
  if i < bs.findIdx isStop then .val (bs.getD i 0)
  else match bs[bs.findIdx isStop]? with
    | none => .stop
    | some b => if b = 127 then .stop else if bs.findIdx isStop = 0 then .bad else .val (bs.getD (bs.findIdx isStop - 1) 0)
/-- none of the first j ends the walk -/
def Plain (bs : List Int) (j : Nat) : Prop := ∀ k, k < j → ∃ b, bs[k]? = some b ∧ isStop b = false
theorem plain_zero (bs : List Int) : Plain bs 0 := fun _ h => absurd h (Nat.not_lt_zero _)
theorem Plain.succ {bs : List Int} {j : Nat} {b : Int} (h : Plain bs j) (hb : bs[j]? = some b) (h1 : b ≠ 127) (h2 : b ≠ 0) : Plain bs (j + 1) := by
  intro k hk
  by_cases e : k = j
  · subst e; exact ⟨b, hb, by simp [isStop, h1, h2]⟩
  · exact h k (by omega)
theorem Plain.le {bs : List Int} {j : Nat} (h : Plain bs j) : j ≤ bs.findIdx isStop := by
  rcases Nat.lt_or_ge (bs.findIdx isStop) j with hl | hl
  · obtain ⟨b, hb, hs⟩ := h _ hl
    have hlt : bs.findIdx isStop < bs.length := (List.getElem?_eq_some_iff.mp hb).1
    have := List.findIdx_getElem (p := isStop) (xs := bs) (w := hlt)
    have e : bs[bs.findIdx isStop] = b := by rw [List.getElem?_eq_getElem hlt] at hb; exact Option.some.inj hb
    rw [e, hs] at this
    cases this
  · exact hl
theorem findIdx_at {bs : List Int} {j : Nat} {b : Int} (h : Plain bs j) (hb : bs[j]? = some b) (hs : isStop b = true) : bs.findIdx isStop = j := by
  have h1 := h.le
  have hlt : j < bs.length := (List.getElem?_eq_some_iff.mp hb).1
  have e : bs[j] = b := by rw [List.getElem?_eq_getElem hlt] at hb; exact Option.some.inj hb
  rcases Nat.lt_or_ge j (bs.findIdx isStop) with hl | hl
  · have := List.not_of_lt_findIdx hl
    rw [e, hs] at this
    cases this
  · omega
theorem gnext_end {bs : List Int} {j : Nat} (h : Plain bs j) (hj : bs[j]? = none) : gnext bs j = .stop := by
  have h1 := h.le
  have h2 : bs.length ≤ j := List.getElem?_eq_none_iff.mp hj
  have h3 := List.findIdx_le_length (p := isStop) (xs := bs)
  have e : bs.findIdx isStop = j := by omega
  unfold gnext
  rw [e, if_neg (Nat.lt_irrefl _), hj]
theorem gnext_val {bs : List Int} {j : Nat} {b : Int} (h : Plain bs j) (hb : bs[j]? = some b) (h1 : b ≠ 127) (h2 : b ≠ 0) : gnext bs j = .val b := by
  have := (h.succ hb h1 h2).le
  unfold gnext
  rw [if_pos (by omega), List.getD_eq_getElem?_getD, hb]; rfl
theorem gnext_127 {bs : List Int} {j : Nat} (h : Plain bs j) (hb : bs[j]? = some 127) : gnext bs j = .stop := by
  have e := findIdx_at h hb rfl
  unfold gnext
  rw [e, if_neg (Nat.lt_irrefl _), hb]; rfl
theorem gnext_bad {bs : List Int} (hb : bs[0]? = some 0) : gnext bs 0 = .bad := by
  have e := findIdx_at (plain_zero bs) hb rfl
  unfold gnext
  rw [e, if_neg (Nat.lt_irrefl _), hb]; rfl
theorem gnext_rep {bs : List Int} {j : Nat} {x : Int} (h : Plain bs (j + 1)) (hb : bs[j + 1]? = some 0) (hx : bs[j]? = some x) {i : Nat} (hi : j + 1 ≤ i) : gnext bs i = .val x := by
  have e := findIdx_at h hb rfl
  unfold gnext
  rw [e, if_neg (by omega), hb]
  show (if (0 : Int) = 127 then _ else _) = _
  rw [if_neg (by decide), if_neg (by omega), List.getD_eq_getElem?_getD, Nat.add_sub_cancel, hx]; rfl
/-- what a resumed walk hands on -/
def GY (bs : List Int) (g : Heap) (Lg I : Addr) : Protocol := fun n s₀ v s kap =>
  (∃ x t, gnext bs (11 - n) = .val x ∧ v = .int x t) ∧ GenSince Lg [I] s₀ s ∧
    (0 < n → ∀ s'' : Shared, g.StaysIn s''.heap → (∀ o, s.heap.get? Lg = some o → s''.heap.get? Lg = some o) → (∀ o, s.heap.get? I = some o → s''.heap.get? I = some o) → kap (.send .none) s'')
/-- how a resumed walk ends -/
def GR (bs : List Int) (g : Heap) (Lg I : Addr) (l : List Env) : GenEnd := fun n s₀ r s =>
  (r = .ok (.ret .none) ∧ gnext bs (12 - n) = .stop ∧ GenSince Lg [I] s₀ s) ∨
  (∃ e t vs h' tk' B, r = .error (.ref e) ∧ gnext bs (12 - n) = .bad ∧ s = { s₀ with heap := h', toks := tk' } ∧
    (∀ b o, b ≠ Lg → b ≠ I → b ∉ l.filterMap (·.frame) → s₀.heap.get? b = some o → B.get? b = some o) ∧ Heap.FlyingW B l e (.type "ValueError") (.ref t) h' ∧ h'.TupAt t vs ∧ B.get? t = none ∧ g.UpToSlots h')
/-- a walk that has not begun -/
def GFresh (w : World) (bs : List Int) (g h₁ : Heap) (Lg : Addr) (base : Heap) (code : Code) : Prop :=
  ∀ (A : Around) (l : List Env) (s : Shared), A.handled = none → A.frames = some l → g.FunFrames base l → h₁.StaysIn s.heap →
    GenState.Goes (model PySem.Challenge.rw_pa0026_01.row.prog w) A (GR bs g Lg s.heap.objs.size l) (GY bs g Lg s.heap.objs.size) 12 (.fresh code) (.send .none) s
/-- the walk's last size told, after j -/
def LastIs (bs : List Int) : Nat → Value → Prop
  | 0, lv => lv = .none
  | j + 1, lv => ∃ y t, bs[j]? = some y ∧ lv = .int y t
/-- what is known of a walk at the head of its loop, j sizes taken, n steps to come -/
structure GAt (bs : List Int) (x : Array UInt8) (tx : Tok) (g : Heap) (Lg I : Addr) (n j : Nat) (s₀ s : Shared) (lv : Value) (m0 : Str → Option Value) : Prop where
  pos : 0 < n
  sum : n + j = 12
  plain : Plain bs j
  since : GenSince Lg [I] s₀ s
  keep : g.StaysIn s.heap
  ns : s.heap.Ns Lg (fun y => if y = "last_interval" then some lv else m0 y)
  last : LastIs bs j lv
  iter : KBw.IsBytesIter s.heap I x tx j
def ForClaim (w : World) (A : Around) (x : Array UInt8) (tx : Tok) (g : Heap) (Lg I : Addr) (l : List Env) (c : Code) (t : Sem PySem.Fin) (fs : List Frame) : Prop :=
  ∀ n j s₀ s lv m0, GAt (KBw.bInts x) x tx g Lg I n j s₀ s lv m0 → Seg (model PySem.Challenge.rw_pa0026_01.row.prog w) A (GR (KBw.bInts x) g Lg I l) (GY (KBw.bInts x) g Lg I) n s₀ c t fs s
theorem ForClaim.ind {w : World} {A : Around} {x : Array UInt8} {tx : Tok} {g : Heap} {Lg I : Addr} {l : List Env} {c : Code} {t : Sem PySem.Fin} {fs : List Frame}
    (h : ∀ n, (∀ j s₀ s lv m0, GAt (KBw.bInts x) x tx g Lg I n j s₀ s lv m0 → Seg (model PySem.Challenge.rw_pa0026_01.row.prog w) A (GR (KBw.bInts x) g Lg I l) (GY (KBw.bInts x) g Lg I) n s₀ c t fs s) →
      ∀ j s₀ s lv m0, GAt (KBw.bInts x) x tx g Lg I (n + 1) j s₀ s lv m0 → Seg (model PySem.Challenge.rw_pa0026_01.row.prog w) A (GR (KBw.bInts x) g Lg I l) (GY (KBw.bInts x) g Lg I) (n + 1) s₀ c t fs s) : ForClaim w A x tx g Lg I l c t fs := by
  intro n
  induction n with
  | zero => intro j s₀ s lv m0 H; exact absurd H.pos (Nat.lt_irrefl _)
  | succ n ih => exact h n ih
theorem ForClaim.use {w : World} {A : Around} {x : Array UInt8} {tx : Tok} {g : Heap} {Lg I : Addr} {l : List Env} {c : Code} {t : Sem PySem.Fin} {fs : List Frame} {n j : Nat} {s₀ s : Shared} {lv : Value} {m0 : Str → Option Value}
    (H : ForClaim w A x tx g Lg I l c t fs) (G : GAt (KBw.bInts x) x tx g Lg I n j s₀ s lv m0) : Seg (model PySem.Challenge.rw_pa0026_01.row.prog w) A (GR (KBw.bInts x) g Lg I l) (GY (KBw.bInts x) g Lg I) n s₀ c t fs s := H n j s₀ s lv m0 G
def WhClaim (w : World) (A : Around) (bs : List Int) (g : Heap) (Lg I : Addr) (l : List Env) (y : Int) (ty : Tok) (c : Code) (t : Sem PySem.Fin) (fs : List Frame) : Prop :=
  ∀ n s₀ s m, (0 < n ∧ n ≤ 12 ∧ (∀ i, 12 - n ≤ i → gnext bs i = .val y) ∧ GenSince Lg [I] s₀ s ∧ g.StaysIn s.heap ∧ s.heap.Ns Lg m ∧ m "last_interval" = some (.int y ty)) →
    Seg (model PySem.Challenge.rw_pa0026_01.row.prog w) A (GR bs g Lg I l) (GY bs g Lg I) n s₀ c t fs s
theorem WhClaim.ind {w : World} {A : Around} {bs : List Int} {g : Heap} {Lg I : Addr} {l : List Env} {y : Int} {ty : Tok} {c : Code} {t : Sem PySem.Fin} {fs : List Frame}
    (h : ∀ n, (∀ s₀ s m, (0 < n ∧ n ≤ 12 ∧ (∀ i, 12 - n ≤ i → gnext bs i = .val y) ∧ GenSince Lg [I] s₀ s ∧ g.StaysIn s.heap ∧ s.heap.Ns Lg m ∧ m "last_interval" = some (.int y ty)) →
        Seg (model PySem.Challenge.rw_pa0026_01.row.prog w) A (GR bs g Lg I l) (GY bs g Lg I) n s₀ c t fs s) →
      n + 1 ≤ 12 → (∀ i, 12 - (n + 1) ≤ i → gnext bs i = .val y) → ∀ s₀ s m, GenSince Lg [I] s₀ s → g.StaysIn s.heap → s.heap.Ns Lg m → m "last_interval" = some (.int y ty) →
        Seg (model PySem.Challenge.rw_pa0026_01.row.prog w) A (GR bs g Lg I l) (GY bs g Lg I) (n + 1) s₀ c t fs s) : WhClaim w A bs g Lg I l y ty c t fs := by
  intro n
  induction n with
  | zero => intro s₀ s m H; exact absurd H.1 (Nat.lt_irrefl _)
  | succ n ih => exact fun s₀ s m ⟨_, h2, h3, h4, h5, h6, h7⟩ => h n ih h2 h3 s₀ s m h4 h5 h6 h7
theorem WhClaim.use {w : World} {A : Around} {bs : List Int} {g : Heap} {Lg I : Addr} {l : List Env} {y : Int} {ty : Tok} {c : Code} {t : Sem PySem.Fin} {fs : List Frame} {n : Nat} {s₀ s : Shared} {m : Str → Option Value}
    (H : WhClaim w A bs g Lg I l y ty c t fs) (h1 : 0 < n) (h2 : n ≤ 12) (h3 : ∀ i, 12 - n ≤ i → gnext bs i = .val y) (h4 : GenSince Lg [I] s₀ s) (h5 : g.StaysIn s.heap) (h6 : s.heap.Ns Lg m) (h7 : m "last_interval" = some (.int y ty)) :
    Seg (model PySem.Challenge.rw_pa0026_01.row.prog w) A (GR bs g Lg I l) (GY bs g Lg I) n s₀ c t fs s := H n s₀ s m ⟨h1, h2, h3, h4, h5, h6, h7⟩
/-- the objects of a heap that another one does not hold, some apart -/
def others (h g : Heap) (bad : List Addr) : List (Addr × Obj) := (List.range h.objs.size).filterMap fun b => if b ∈ bad ∨ (g.get? b).isSome = true then none else (h.get? b).map fun o => (b, o)
theorem mem_others {h g : Heap} {bad : List Addr} {p : Addr × Obj} : p ∈ others h g bad ↔ h.get? p.1 = some p.2 ∧ p.1 ∉ bad ∧ g.get? p.1 = none := by
  obtain ⟨b, o⟩ := p
  simp only [others, List.mem_filterMap, List.mem_range]
  constructor
  · rintro ⟨b', _, e⟩
    split at e
    · cases e
    · rename_i hn
      cases hb : h.get? b' with
      | none => rw [hb] at e; cases e
      | some o' =>
        rw [hb] at e
        cases e
        refine ⟨hb, fun q => hn (.inl q), ?_⟩
        cases hg : g.get? b with
        | none => rfl
        | some _ => exact absurd (.inr (by rw [hg]; rfl)) hn
  · rintro ⟨hb, hn, hg⟩
    refine ⟨b, Heap.lt_size hb, ?_⟩
    rw [if_neg (by rintro (q | q); exact hn q; rw [hg] at q; cases q), hb]; rfl
theorem others_news {h g : Heap} {bad : List Addr} {L : Addr} (hL : L ∈ bad) : News g L h (others h g bad) := fun p hp => by
  obtain ⟨h1, h2, h3⟩ := mem_others.mp hp
  exact ⟨h1, fun e => h2 (e ▸ hL), h3⟩
theorem others_keep {h h' g : Heap} {bad : List Addr} {L : Addr} {m : Str → Option Value} (k : g.StaysIn h) (F : Fr g L h' m) (N : News g L h' (others h g bad)) : ∀ b o, b ∉ bad → h.get? b = some o → h'.get? b = some o := by
  intro b o hb e
  cases hg : g.get? b with
  | none => exact (N (b, o) (mem_others.mpr ⟨e, hb, hg⟩)).1
  | some o' =>
    have := k _ _ hg
    rw [e] at this
    cases this
    exact F.keep _ _ hg
end
section
open PySem PySem.W PySem.Spec PySem.Calls PyProof.Rows
section
variable {M : Model} {A : Around} {E : Value → Shared → Prop} {s : Shared}
theorem setFlight_held {base : Heap} {l : List Env} {e L : Addr} {cls a0 : Value} {Q : Unit → Shared → Prop} (R : Heap.HeldW base l e cls a0 L s.heap)
    (h : ∀ h', Heap.HeldW base l e cls a0 L h' → s.heap.UpToSlots h' → Q () { s with heap := h' }) : wpAny M A (setFlight (.ref e) (some L)) Q E s := by
  obtain ⟨hkb, hen, hl, oe, vs, T, oT, ts, he, hcls, hd, h1, hnT, hTe, hT, hdT, h3⟩ := R
  have hsz : 3 < ts.size := (Array.getElem?_eq_some_iff.mp h3).1
  have hne : ∀ b, b ≠ T → (s.heap.update T (Obj.mapFields (·.setIfInBounds 3 ((some L).elim Value.none fun f => rawInt f)))).get? b = s.heap.get? b :=
    fun b hb => Heap.get?_update_other _ _ (Ne.symm hb)
  have hno : ∀ b o, s.heap.get? b = some o → (∀ vs, o.data ≠ .fields vs) → b ≠ T := fun b o hb hnf q => by
    rw [q, hT] at hb; cases hb; exact hnf ts hdT
  unfold setFlight
  refine wpAny_bind (wpAny_field he hd h1 ?_)
  rw [if_pos (show (Value.ref T != Value.none) = true from by simp)]
  refine wpAny_setField hT hdT hsz (h _ ⟨fun b o hb => (hne b fun q => by rw [q, hnT] at hb; cases hb).trans (hkb b o hb), hen,
    hl.of_keeps fun b o hb hnf => ⟨o, (hne b (hno b o hb hnf)).trans hb, rfl⟩, ?_⟩ fun b o hb hnf => ⟨o.slots, (hne b (hno b o hb hnf)).trans hb⟩)
  exact ⟨oe, vs, T, _, _, (hne e (Ne.symm hTe)).trans he, hcls, hd, h1, hnT, hTe, Heap.get?_update_self _ hT (Obj.isFreed_of_fields (Obj.data_mapFields hdT _)), Obj.data_mapFields hdT _, by simp [hsz]⟩
/-- an exception made here meets its frame for the first time -/
theorem noteFrame_made {base : Heap} {env : Env} {outer : List Env} {L e : Addr} {oe : Obj} {vs : Array Value} {a0 : Value} {Q : Unit → Shared → Prop}
    (hfr : A.frames = some (env :: outer)) (hl : s.heap.FunFrames base (env :: outer)) (hf : env.frame = some L)
    (he : s.heap.get? e = some oe) (hkb : base.StaysIn s.heap) (hen : base.get? e = none) (hd : oe.data = .fields vs) (h1 : vs[1]? = some .none) (h0 : vs[0]? = some a0)
    (h : ∀ h', Heap.HeldW base (env :: outer) e oe.cls a0 L h' → s.heap.UpToSlots h' → Q () { s with heap := h' }) : wpAny M A (noteFrame (.ref e) env) Q E s := by
  unfold noteFrame
  simp only [hf]
  refine wpAny_bind (wpAny_field he hd h1 ?_)
  rw [if_neg (by decide)]
  exact wpAny_entryW hfr hl hf he hkb hen hd (Array.getElem?_eq_some_iff.mp h1).1 h0 fun h' ⟨x1, x2, x3, x4⟩ => h h' ⟨x1, hen, x2, x3⟩ x4
end
section
variable {M : Model} {A : Around} {R : GenEnd} {Y : Protocol} {n : Nat} {s₀ : Shared} {s : Shared} {env : Env}
/-- An exception that a walk's loop makes leaves the walk. -/
theorem seg_made_out {target : Expr} {it : Value} {body orelse body0 : List Stmt} {K : Flow → Sem PySem.Fin} {gd0 : Bool} {lv0 : List Value} {p : Pos} {l : List Env} {h_r : Heap} {e Lg : Addr} {cls : String} {vs : List Value} {g base : Heap}
    (hfr : A.frames = some l) (hf : env.frame = some Lg) (hk : env.scope.kind = .function) (hx : Heap.MadeExc h_r s.heap e cls vs)
    (hff : g.FunFrames base l) (hg : g.StaysIn h_r) (hLg : ∃ o, h_r.get? Lg = some o ∧ ∀ vs, o.data ≠ .fields vs)
    (hR : ∀ h'' t B, B = hideAll h_r ((env :: l).filterMap (·.frame)) → Heap.FlyingW B l e (.type cls) (.ref t) h'' → h''.TupAt t vs → B.get? t = none → h_r.UpToSlots h'' → R n s₀ (.error (.ref e)) { s with heap := h'' }) :
    Seg M A R Y n s₀ (.forLoop target it body orelse env) (notedK env (.ref e))
      [.ret (loopK env K (fun e => (leaving env e).wrap (fun _ => .raise e) .raise id id) id id) none gd0 lv0 (.func body0 env) p []] s := by
  have hfr' : (A.over (.forLoop target it body orelse env) [.ret (loopK env K (fun e => (leaving env e).wrap (fun _ => .raise e) .raise id id) id id) none gd0 lv0 (.func body0 env) p []]).frames = some (env :: l) := by
    show pushEnvs [] (pushEnvs [env] A.frames) = _
    rw [hfr]; rfl
  have hfr2 : (A.over (.func body0 env) []).frames = some (env :: l) := by
    show pushEnvs [env] (pushEnvs [] A.frames) = _
    rw [hfr]; rfl
  obtain ⟨t, he, htn, ht⟩ := hx.there
  have hin : ∀ v ∈ (env :: l), ∀ b, v.frame = some b → b ∈ (env :: l).filterMap (·.frame) := fun v hv b hb => List.mem_filterMap.mpr ⟨v, hv, hb⟩
  have hkB : (hideAll h_r ((env :: l).filterMap (·.frame))).StaysIn s.heap := fun b o q => hx.keeps b o (of_hideAll _ q)
  have fresh : ∀ b, h_r.get? b = none → (hideAll h_r ((env :: l).filterMap (·.frame))).get? b = none := fun b hb => by
    cases q : (hideAll h_r ((env :: l).filterMap (·.frame))).get? b with
    | none => rfl
    | some o => have := of_hideAll _ q; rw [hb] at this; cases this
  have hfun : s.heap.FunFrames (hideAll h_r ((env :: l).filterMap (·.frame))) (env :: l) := by
    have h1 : h_r.FunFrames base l := hff.of_keeps fun b o e _ => ⟨o, hg b o e, rfl⟩
    obtain ⟨oL, hoL, hdL⟩ := hLg
    exact ⟨by rw [hk]; decide, ⟨Lg, oL, hf, hideAll_none _ (hin env (.head _) Lg hf), hx.keeps _ _ hoL, hdL⟩, (funFrames_hide h1 fun v hv a ha => hin v (.tail _ hv) a ha).of_keeps fun b o e _ => ⟨o, hx.keeps b o e, rfl⟩⟩
  have hus : h_r.UpToSlots s.heap := Heap.UpToSlots.of_keeps hx.keeps
  refine seg_wrap (wpAny_bind (noteFrame_made (a0 := .ref t) hfr' hfun hf he hkB (fresh e hx.new) rfl rfl rfl fun h₁ H₁ u₁ => ?_))
  refine wpAny_theTreesLotGoes ?_
  refine seg_leaf (.error (.ref e)) ?_
  show Seg M A R Y n s₀ (.func body0 env) ((Sem.raise (.ref e) : Sem Flow).onRaise (fun (x : Value) => do
        if (← field x 1) == Value.none then unsupported "frame.own-activation:exception-without-traceback"
        setFlight x env.frame) |>.wrap K _ id id) [] _
  obtain ⟨_, _, _, oe, ws, T, oT, ts, he', hcls', hd', h1', hnT, hTe, hT, hdT, h3⟩ := id H₁
  refine seg_wrap (wpAny_onRaise (wpAny_throw ?_))
  refine wpAny_bind (wpAny_field he' hd' h1' ?_)
  rw [if_neg (show ¬ ((Value.ref T == Value.none) = true) from by simp), hf]
  refine setFlight_held H₁ fun h₂ H₂ u₂ => ?_
  refine seg_wrap ?_
  unfold leaving
  refine wpAny_bind (wpAny_noteFrame_againW hf H₂.2.2.2 ?_)
  refine wpAny_landsW H₂ fun h₃ H₃ u₃ => ?_
  obtain ⟨k1, k2, ⟨_, _, k3⟩, k4⟩ := H₃
  have hs := ((hus.trans u₁).trans u₂).trans u₃
  exact seg_end (.error (.ref e)) (hR h₃ t _ rfl ⟨k1, k2, k3, k4⟩ (Heap.TupAt.of_slots ⟨_, _, ht, rfl, rfl⟩ ((u₁.trans u₂).trans u₃)) (fresh t htn) hs)
end
end
section
open PySem PySem.W PySem.Spec PySem.Calls PyProof.Rows
section
variable {prog p : Program} {w : World} {A : Around} {g : Heap} {gs : Array GenState} {dr : Drawn} {tk : Nat} {os : OsState} {K : Frag} {loose : List Str} {mean : ExcName → Option Value} {mg mb : Str → Option Value}
  {R : Result → Shared → Prop} {name qual : Str} {params : Arguments} {body : List Stmt} {scope : Scope} {dV kV doc pm cdv ct oc : Value} {an od : Option Addr} {osl : Array (Option Value)} {f : Addr} {args : Args} {binds : List (Str × Value)}
/-- A call of a def that yields: a frame and a generator are made, nothing is run. -/
theorem gen_make (X : K.In g) (T : Top p loose mean mg mb g)
    (ho : K.lookup f = some ⟨oc, od, .func (fnOf name qual params body scope dV kV doc pm an cdv ct), osl⟩) (hcd : codeIn K cdv qual = true) (hroom : A.depth < recursionLimit)
    (hbind : BindsTo ⟨g, gs, dr, tk, os⟩ (fnOf name qual params body scope dV kV doc pm an cdv ct) args binds) (hloc : ∀ y ∈ binds, scope.names.lookup y.1 = some .local)
    (h : ∀ h₁ tk', Fr g g.objs.size h₁ (fun y => binds.reverse.lookup y) → h₁.objs.size = g.objs.size + 1 →
      R (.ok (.ret (.ref h₁.objs.size))) ⟨h₁.push { cls := .type "generator", data := .fields #[.int gs.size 0, .str name tk', .str qual (tk' + 1)] }, gs.push (.fresh (.func body (envOf qual scope g.objs.size f cdv))), dr, tk' + 1 + 1, os⟩)
    (hco : scope.isCoroutine = false) (hgen : scope.isGenerator = true) (hk : scope.kind = .function)
    (hcell : ∀ x ∈ scope.names, x.2 ≠ .cell) : codeAny (model prog w) A (.call (.ref f) args) R ⟨g, gs, dr, tk, os⟩ := by
  refine codeAny_call_generator (fd := fnOf name qual params body scope dV kV doc pm an cdv ct) (body := body) hroom (X _ _ ho) rfl hco hgen rfl (codeRec_of X hcd) (hbind _ _ _ _ ?_)
  refine wpAny_newFunctionEnv hcell hloc (fun h₁ hns hsb => ?_) hk
  have hk₁ : ∀ b o, g.get? b = some o → h₁.get? b = some o := fun b o e => hsb.extBut b o (Nat.ne_of_lt (Heap.lt_size e)) (Heap.get?_push_of_some _ e)
  exact ⟨T.nolimit.keeps hk₁, h h₁ _ ⟨hns, hk₁, Nat.le_refl _⟩ (by rw [hsb.1, Heap.size_push])⟩
end
end
section
open PySem PySem.W PySem.Spec PySem.Calls PyProof.Rows
set_option maxRecDepth 100000 in
set_option maxHeartbeats 1000000 in
theorem gen_call (w : World) (x : Array UInt8) (t : Tok) : ∀ (A₀ : Around) (g : Heap) (gs : Array GenState) (dr : Drawn) (tk : Nat) (os : OsState) (R : Result → Shared → Prop) (mean : ExcName → Option Value) (mg mb : Str → Option Value) (base : Heap) (hd : A₀.depth < recursionLimit) (X : (Mine.hd.heap_39 w.params).In g) (T : Top Mine.hd.view_39 loose0 mean mg mb g)
    (hR : ∀ h₁ tk' code, g.StaysIn h₁ → h₁.objs.size = g.objs.size + 2 → h₁.IsGen (g.objs.size + 1) gs.size → GFresh w (KBw.bInts x) g h₁ g.objs.size base code → R (.ok (.ret (.ref (g.objs.size + 1)))) ⟨h₁, gs.push (.fresh code), dr, tk', os⟩),
    codeAny (model PySem.Challenge.rw_pa0026_01.row.prog w) A₀ (.call (.ref 28) ⟨[.bytes x t], []⟩) R ⟨g, gs, dr, tk, os⟩ := by
  w_on
  k_fill
  intro A₀ g gs dr tk os R mean mg mb base hd X T hR
  k_dflt (refine' gen_make ?k3 ?k5 ?k6 ?k7 ?k8 ?k9 ?kB ?_ ?c2 ?c3 ?c4 ?c5; (case k3 => k_asm); (case k5 => k_asm); (case k6 => k_is); (case k7 => k_is); (case k8 => k_asm); (case k9 => first | exact BindsTo.of_eq rfl | exact binds_K (by k_in) rfl (by k_is) rfl rfl rfl); (case c5 => decide); (case kB => exact locs rfl); (case c2 => exact rfl); (case c3 => exact rfl); (case c4 => exact rfl); k_whole; intro h₁ tk' F₁ hsz)
  rw [hsz]
  refine hR _ _ _ (fun b o e => Heap.get?_push_of_some _ (F₁.keep b o e)) (by rw [Heap.size_push, hsz]) ⟨_, _, _, hsz ▸ Heap.get?_push_size _ rfl, rfl, rfl, rfl⟩ ?_
  intro A l s hh hfr hff hst
  refine ⟨rfl, seg_func (seg_execs_cons (seg_plain ?_))⟩
  have F : Fr g g.objs.size s.heap _ := F₁.keeps fun b o e => hst b o (Heap.get?_push_of_some _ e)
  have hk : g.StaysIn s.heap := F.keep
  clear hR
  generalize hLg : g.objs.size = Lg at *
  have hab := Nat.le_of_eq hLg
  (try dsimp only)
  refine wpAny_Assign_Name (wpAny_Constant_none (wpAny_storeName_local rfl F.ns (fun h' hn hs => ?_)))
  have hI : h'.objs.size = s.heap.objs.size := hs.1
  have F2 : Fr g Lg h' _ := ⟨hn, fun b o e => hs.extBut b o (Nat.ne_of_lt (Nat.lt_of_lt_of_le (Heap.lt_size e) hab)) (hk b o e), hab⟩
  refine seg_execs_cons (seg_For ?_)
  k_steps
  refine KBw.pyIter_bytes ?_
  intro p
  show Seg _ A _ _ 12 s (Code.forLoop _ (Value.ref h'.objs.size) _ _ _) _ _ _
  rw [hI]
  have hLI : Lg ≠ s.heap.objs.size := by
    obtain ⟨o, _, _, ho, _⟩ := F.ns
    exact Nat.ne_of_lt (Heap.lt_size ho)
  refine ForClaim.use (j := 0) (lv := .none) ?claim ⟨by decide, rfl, plain_zero _, ⟨_, _, rfl, fun b o h1 h2 e => ?s1⟩, fun b o e => Heap.get?_push_of_some _ (F2.keep b o e), F2.ns.push _, rfl, ⟨_, hI ▸ Heap.get?_push_size _ rfl, rfl, rfl⟩⟩
  case s1 => exact Heap.get?_push_of_some _ (hs.extBut b o h1 e)
  case claim =>
    have hgI : g.get? s.heap.objs.size = none := by
      cases q : g.get? s.heap.objs.size with
      | none => rfl
      | some o => exact absurd (Heap.lt_size (hk _ _ q)) (Nat.lt_irrefl _)
    generalize s.heap.objs.size = I at hLI hgI
    clear F F2 hn hs hI hst hk F₁
    refine ForClaim.ind fun n ih j s₀ s lv m0 G => ?_
    clear tk'
    refine seg_forLoop ?_
    cases hx : x[j]? with
    | none =>
      refine KBw.next_end ?hh G.iter hx fun h' he => ?_
      case hh => exact hh
      refine seg_block_nil (seg_leaf (.ok .next) ?_)
      refine seg_end (.ok (.ret .none)) (.inl ⟨rfl, ?_, G.since.step fun b o _ h2 e => he b o (fun q => h2 (q ▸ List.mem_singleton.mpr rfl)) e⟩)
      rw [show 12 - (n + 1) = j from by have := G.sum; omega]
      exact gnext_end G.plain (by simpa [KBw.bInts] using hx)
    | some c =>
      have hx' : (KBw.bInts x)[j]? = some (c.toNat : Int) := KBw.ints_get hx
      refine KBw.next_item G.iter hx fun h' it' hs => wpAny_pure ?_
      refine wpAny_assign_Name (wpAny_storeName_local rfl (G.ns.sameBut hs hLI) fun h'' hn hs2 => ?_)
      have hkb : ∀ b o, b ≠ Lg → b ≠ I → s.heap.get? b = some o → h''.get? b = some o := fun b o h1 h2 e => hs2.extBut b o h1 (hs.extBut b o h2 e)
      have it2 : KBw.IsBytesIter h'' I x t (j + 1) := by
        obtain ⟨o, ho, hc⟩ := it'
        exact ⟨o, hs2.extBut I o (Ne.symm hLI) ho, hc⟩
      have F : Fr g Lg h'' _ := ⟨hn, fun b o e => hs2.extBut b o (Nat.ne_of_lt (Nat.lt_of_lt_of_le (Heap.lt_size e) hab)) (hs.extBut b o (fun q => by rw [q, hgI] at e; cases e) (G.keep b o e)), hab⟩
      have N : News g Lg h'' (others h'' g [Lg, I]) := others_news (.head _)
      have hj : 12 - (n + 1) = j := by have := G.sum; omega
      refine seg_execs_cons (seg_If ?_)
      k_steps
      · rename ((c.toNat : Int) = 127) => hc
        refine seg_execs_cons (seg_plain ?_)
        k_steps
        refine seg_leaf (.ok (.ret .none)) (seg_end (.ok (.ret .none)) (.inl ⟨rfl, ?_, ?_⟩))
        · rw [hj]; exact gnext_127 G.plain (hc ▸ hx')
        · exact G.since.step fun b o h1 h2 e => hkb b o h1 (fun q => h2 (q ▸ List.mem_singleton.mpr rfl)) e
      · rename (¬ (c.toNat : Int) = 127) => hc
        refine seg_execs_nil ?_
        show Seg _ _ _ _ _ _ _ ((execs _ _).wrap _ _ _ _) _ _
        refine seg_execs_cons (seg_If ?_)
        k_steps
        · rename ((c.toNat : Int) = 0) => hc0
          refine seg_execs_cons (seg_If ?_)
          cases j with
          | zero =>
            obtain rfl : lv = .none := G.last
            k_steps
            refine seg_execs_cons (seg_plain ?_)
            refine Raise_madeB PySem.F.excCall_ValueError PySem.F.excRaise_ValueError ?hr (name_B F X (topRead_of T) (by k_is) rfl (by decide) ⟨rfl, ?_⟩)
            case hr => exact hh
            k_steps
            rename_i h3 e hx3
            refine seg_made_out hfr rfl rfl hx3 hff F.keep ?_ ?_
            · obtain ⟨oL, es, ep, hoL, hdL, _⟩ := hn
              exact ⟨oL, hoL, fun vs q => by rw [hdL] at q; cases q⟩
            · intro h4 t4 B hB hfl htup hBt hus
              obtain ⟨h9, tk9, e9, ks9⟩ := G.since
              have e10 : ∀ (a : Heap) (b : Nat), ({ s with heap := a, toks := b } : Shared) = { s₀ with heap := a, toks := b } := fun _ _ => by rw [e9]
              refine .inr ⟨e, t4, _, h4, _, B, rfl, ?_, e10 _ _, ?_, hfl, htup, hBt, (Heap.UpToSlots.of_keeps F.keep).trans hus⟩
              · rw [hj]; exact gnext_bad (hc0 ▸ hx')
              · intro b o h1 h2 h5 e6
                rw [hB]
                have e7 : s.heap.get? b = some o := by rw [e9]; exact ks9 b o h1 (fun q => h2 (List.mem_singleton.mp q)) e6
                refine hideAll_get _ (hkb b o h1 h2 e7) fun hm => ?_
                rcases kts_mem hm with z | z
                · exact h1 z
                · exact h5 z
          | succ j =>
            obtain ⟨y, ty, hy, rfl⟩ : ∃ y t, (KBw.bInts x)[j]? = some y ∧ lv = .int y t := G.last
            k_steps
            refine seg_execs_nil ?_
            show Seg _ _ _ _ _ _ _ ((execs _ _).wrap _ _ _ _) _ _
            refine seg_execs_cons (seg_While fun p2 => ?_)
            refine WhClaim.use (y := y) (ty := ty) ?claim G.pos (by have := G.sum; omega) (fun i hi => gnext_rep G.plain (hc0 ▸ hx') hy (by omega)) (G.since.step fun b o h1 h2 e => hkb b o h1 (fun q => h2 (q ▸ List.mem_singleton.mpr rfl)) e) F.keep F.ns rfl
            clear F N hn G ih it2 it' hkb hs hs2 hj
            refine WhClaim.ind fun n ih hn12 hrep s₀ s m hsince hkeep hns hm => ?_
            refine seg_whileLoop ?_
            have F : Fr g Lg s.heap m := ⟨hns, hkeep, hab⟩
            have N : News g Lg s.heap (others s.heap g [Lg, I]) := others_news (.head _)
            k_steps
            refine seg_execs_cons (seg_Expr_Yield rfl rfl rfl ?_)
            refine ld F hm ?_
            intro kap hkap
            refine ⟨⟨y, ty, hrep _ (by omega), rfl⟩, hsince.step fun _ _ _ _ e => e, fun hn0 s'' hg hL hI => hkap .none s'' ?_⟩
            refine seg_again rfl (ih s'' s'' m ⟨hn0, by omega, fun i hi => hrep i (by omega), GenSince.refl _ _ _, hg, ?_, hm⟩)
            exact hns.at' fun o e => hL o e
        · rename (¬ (c.toNat : Int) = 0) => hc0
          refine seg_execs_nil ?_
          show Seg _ _ _ _ _ _ _ ((execs _ _).wrap _ _ _ _) _ _
          refine seg_execs_cons (seg_Expr_Yield rfl rfl rfl ?_)
          k_steps
          rename_i kap hkap
          refine ⟨⟨(c.toNat : Int), _, ?_, rfl⟩, ?_, fun hn0 s'' hg hL hI => hkap .none s'' ?_⟩
          · rw [show 11 - n = j from by omega]; exact gnext_val G.plain hx' hc hc0
          · exact G.since.step fun b o h1 h2 e => hkb b o h1 (fun q => h2 (q ▸ List.mem_singleton.mpr rfl)) e
          · show Seg _ _ _ _ _ _ _ ((execs _ _).wrap _ _ _ _) _ _
            refine seg_execs_cons (seg_plain ?_)
            have F3 : Fr g Lg s''.heap _ := ⟨F.ns.at' fun o e => hL o e, hg, hab⟩
            refine wpAny_Assign_Name (ld F3 (by rfl) (wpAny_storeName_local rfl F3.ns fun h4 hn4 hs4 => ?_))
            refine seg_again rfl (ih (j + 1) s'' _ _ _ ⟨hn0, by have := G.sum; omega, G.plain.succ hx' hc hc0, (GenSince.refl _ _ _).step fun b o h1 _ e => hs4.extBut b o h1 e, fun b o e => hs4.extBut b o (Nat.ne_of_lt (Nat.lt_of_lt_of_le (Heap.lt_size e) hab)) (hg b o e), hn4, ⟨_, _, hx', rfl⟩, ?_⟩)
            obtain ⟨o, ho, hoc⟩ := it2
            exact ⟨o, hs4.extBut I o (Ne.symm hLI) (hI _ ho), hoc⟩
end
section
open PySem PySem.W PySem.Spec PySem.Calls PyProof.Rows
theorem allBare_set {s : Shared} {n : Nat} {x : GenState} (h : AllBare s.gens) (hx : x.bare = true) : AllBare (s.setGen n x).gens := by
  intro y hy
  obtain ⟨i, hi, rfl⟩ := Array.mem_iff_getElem.mp hy
  have hi' : i < s.gens.size := by simpa [Shared.setGen] using hi
  have e : (s.setGen n x).gens[i] = if n = i then x else s.gens[i] := by simp only [Shared.setGen]; exact Array.getElem_setIfInBounds _
  rw [e]
  split
  · exact hx
  · exact h _ (Array.getElem_mem hi')
theorem sub_value_stop : isSubtype (.type "ValueError") (.type "StopIteration") = pure false := by rw [isSubtype_type]; kernel_rfl
section
variable {prog : Program} {w : World} {A : Around} {E : Value → Shared → Prop} {s : Shared}
theorem nextOf_range_item {it : Addr} {x left step : Int} {Q : Value → Shared → Prop} (hit : IsRangeIter s.heap it x left step) (hleft : 0 < left)
    (hQ : ∀ h' tk, IsRangeIter h' it (x + step) (left - 1) step → Heap.SameBut it s.heap h' → Q (.int x tk) { s with heap := h', toks := tk + 1 }) :
    wpAny (model prog w) A (Builtin.SmallTypes.nextOf (.ref it)) Q E s := by
  have hT : s.TypeIs (.ref it) "range_iterator" := ⟨_, hit, rfl⟩
  unfold Builtin.SmallTypes.nextOf
  refine wpAny_bind (wpAny_callSpecial?_slot (name := Str.ofString "__next__") hT F.slot_range_iterator_next
    (call_meets F.slot_range_iterator_next hT F.entry_range_iterator_next (F.args_range_iterator_next_1 _) (AutoRange.range_iterator___next___range_iterator_1 it x left step (by omega)) ⟨hit, ?_⟩))
  exact wpAny_pure (hQ _ _ (Heap.get?_update_self _ (Heap.get?_update_self _ hit rfl) rfl) ((Heap.SameBut.update ..).trans (Heap.SameBut.update ..)))
/-- StopIteration, made and raised -/
theorem stop_raised {β : Type} {Q : β → Shared → Prop} (hh : A.handled = none) (hE : ∀ h' e, (∀ b o, s.heap.get? b = some o → h'.get? b = some o) → (∃ o, h'.get? e = some o ∧ o.cls = .type "StopIteration") → E (.ref e) { s with heap := h' }) :
    wpAny (model prog w) A (newExc (.type "StopIteration") [] >>= fun e => (raiseNew e : Sem β)) Q E s := by
  refine wpAny_bind ?_
  simp only [newExc, newTuple]
  refine wpAny_bind (wpAny_newObj_type ?_ (by size_fits))
  refine wpAny_bind (m := firstArgMember _ _) (wpAny_of_eq (a := Value.none) (by first | rfl | (simp only [firstArgMember]; rfl)) ?_)
  refine wpAny_newObj_type ?_ (by size_fits)
  simp only [raiseNew]
  refine wpAny_bind (wpAny_handled ?_)
  rw [hh]
  refine wpAny_bind (wpAny_pure (wpAny_throw ?_))
  exact hE _ _ (fun b o hb => Heap.get?_push_of_some _ (Heap.get?_push_of_some _ hb)) ⟨_, Heap.get?_push_size _ rfl, rfl⟩
theorem nextOf_range_end {it : Addr} {x left step : Int} {Q : Value → Shared → Prop} (hh : A.handled = none) (hit : IsRangeIter s.heap it x left step) (hleft : left ≤ 0)
    (hE : ∀ h' e, (∀ b o, s.heap.get? b = some o → h'.get? b = some o) → (∃ o, h'.get? e = some o ∧ o.cls = .type "StopIteration") → E (.ref e) { s with heap := h' }) : wpAny (model prog w) A (Builtin.SmallTypes.nextOf (.ref it)) Q E s := by
  have hT : s.TypeIs (.ref it) "range_iterator" := ⟨_, hit, rfl⟩
  unfold Builtin.SmallTypes.nextOf
  refine wpAny_bind (wpAny_callSpecial?_slot (name := Str.ofString "__next__") hT F.slot_range_iterator_next
    (wpAny_call_entry F.slot_range_iterator_next hT F.entry_range_iterator_next ?_ (F.args_range_iterator_next_1 _)))
  show wpAny _ _ (field (.ref it) 0 >>= _) _ _ s
  refine wpAny_bind (wpAny_field hit rfl (x := rawInt x) rfl ?_)
  show wpAny _ _ (field (.ref it) 1 >>= _) _ _ s
  refine wpAny_bind (wpAny_field hit rfl (x := rawInt left) rfl ?_)
  show wpAny _ _ (field (.ref it) 2 >>= _) _ _ s
  refine wpAny_bind (wpAny_field hit rfl (x := rawInt step) rfl ?_)
  show wpAny _ _ (if left ≤ 0 then _ else _) _ _ s
  rw [if_pos hleft]
  refine wpAny_bind (wpAny_rule ?_)
  refine wpAny_bind ?_
  exact stop_raised hh hE
/-- a walk is asked for its next size -/
theorem nextOf_gen {a : Addr} {gn n : Nat} {gst : GenState} {bs : List Int} {g : Heap} {Lg I : Addr} {l : List Env} {Q : Value → Shared → Prop} (hh : A.handled = none)
    (hl : s.heap.NoLimit) (hroom : A.depth < recursionLimit) (haL : a ≠ Lg) (haI : a ≠ I) (hal : a ∉ l.filterMap (·.frame))
    (hg : s.heap.IsGen a gn) (hgs : s.gens[gn]? = some gst)
    (hgo : gst.Goes (model prog w) A.in1 (GR bs g Lg I l) (GY bs g Lg I) n (.send .none) (s.setGen gn .running))
    (hY : ∀ x t h' tk' gs', gs'.bare = true → gnext bs (11 - (n - 1)) = .val x → (∀ b o, b ≠ Lg → b ≠ I → s.heap.get? b = some o → h'.get? b = some o) →
      (1 < n → ∀ s'' : Shared, g.StaysIn s''.heap → (∀ o, h'.get? Lg = some o → s''.heap.get? Lg = some o) → (∀ o, h'.get? I = some o → s''.heap.get? I = some o) → gs'.Goes (model prog w) A.in1 (GR bs g Lg I l) (GY bs g Lg I) (n - 1) (.send .none) s'') →
      Q (.int x t) { s with heap := h', toks := tk', gens := ((s.setGen gn .running).setGen gn gs').gens })
    (hok : ∀ h' e tk', gnext bs (12 - n) = .stop → (∀ b o, b ≠ Lg → b ≠ I → s.heap.get? b = some o → h'.get? b = some o) → (∃ o, h'.get? e = some o ∧ o.cls = .type "StopIteration") →
      E (.ref e) { s with heap := h', toks := tk', gens := ((s.setGen gn .running).setGen gn .finished).gens })
    (herr : ∀ e t vs h' tk' B, gnext bs (12 - n) = .bad → (∀ b o, b ≠ Lg → b ≠ I → b ∉ l.filterMap (·.frame) → s.heap.get? b = some o → B.get? b = some o) → Heap.FlyingW B l e (.type "ValueError") (.ref t) h' → h'.TupAt t vs → B.get? t = none → g.UpToSlots h' →
      E (.ref e) { s with heap := h', toks := tk', gens := ((s.setGen gn .running).setGen gn .finished).gens }) :
    wpAny (model prog w) A (Builtin.SmallTypes.nextOf (.ref a)) Q E s := by
  unfold Builtin.SmallTypes.nextOf
  refine wpAny_bind (wpAny_callSpecial?_slot (name := Str.ofString "__next__") hg.typeIs slot_gen_next
    (wpAny_call_entry slot_gen_next hg.typeIs entry_gen_next ?_ (args_gen_next _)))
  show wpAny _ A.in1 (Builtin.Generator.genWake (.ref a) (.send .none)) _ _ s
  unfold Builtin.Generator.genWake
  refine wpAny_bind (wpAny_holding (wpAny_genNumber hg (wpAny_bind (wpAny_genState hgs ?_))))
  cases gst with
  | running => exact hgo.elim
  | finished => exact hgo.elim
  | _ =>
    refine wpAny_bind (wpAny_roomToWake hl hroom ?_)
    show wpAny _ A.in1 (.resume gn (.send .none) [] _) _ _ s
    refine wpAny_resumeQ hgs hgo (fun x s₁ hx => ?_) (fun v s₁ gs' hb hv => ?_)
    · rcases hx with ⟨rfl, hst, hsince⟩ | ⟨e, t, vs, h', tk', B, rfl, hbad, rfl, hk, hfl, htup, hBt, hus⟩
      · obtain ⟨h₁, tk₁, rfl, hk₁⟩ := hsince
        show wpAny _ A.in1 (newExc (.type "StopIteration") [] >>= _) _ _ _
        refine wpAny_bind ?_
        simp only [newExc, newTuple]
        refine wpAny_bind (wpAny_newObj_type ?_ (by size_fits))
        refine wpAny_bind (m := firstArgMember _ _) (wpAny_of_eq (a := Value.none) (by first | rfl | (simp only [firstArgMember]; rfl)) ?_)
        refine wpAny_newObj_type ?_ (by size_fits)
        simp only [raiseNew]
        refine wpAny_bind (wpAny_bind (wpAny_handled ?_))
        rw [show A.in1.handled = none from hh]
        refine wpAny_throw ?_
        exact hok _ _ tk₁ hst (fun b o h1 h2 e => Heap.get?_push_of_some _ (Heap.get?_push_of_some _ (hk₁ b o h1 (fun q => h2 (List.mem_singleton.mp q)) e))) ⟨_, Heap.get?_push_size _ rfl, rfl⟩
      · show wpAny _ A.in1 (Builtin.Generator.genLeft (.ref a) (.ref e)) _ _ _
        obtain ⟨o, nm, qn, ho, hoc, hod, _⟩ := id hg
        have hoB := hk a o haL haI hal ho
        have hoh := hfl.1 _ _ hoB
        unfold Builtin.Generator.genLeft Builtin.Generator.madeByALambda
        refine wpAny_bind (wpAny_bind (wpAny_load hoh (wpAny_pure ?_)))
        rw [hoc, hod]
        have hTe : ∀ u : Shared, u.heap = h' → u.TypeIs (.ref e) "ValueError" := fun u hu => by
          obtain ⟨ob, hob, hc⟩ := hfl.there
          exact ⟨ob, hu ▸ hob, hc⟩
        refine wpAny_bind (wpAny_isInstance (T := "ValueError") (b := false) (hTe _ rfl) sub_value_stop ?_)
        rw [Bool.and_false]
        simp only [Bool.false_eq_true, if_false]
        unfold Builtin.Generator.genEscaped
        refine wpAny_bind (wpAny_isInstance (T := "ValueError") (b := false) (hTe _ rfl) sub_value_stop ?_)
        simp only [Bool.not_false, if_true]
        refine wpAny_bind (wpAny_throw ?_)
        exact herr e t vs h' tk' B hbad hk hfl htup hBt hus
    · obtain ⟨⟨x, t, hx, rfl⟩, ⟨h₁, tk₁, rfl, hk₁⟩, hkap⟩ := hv
      refine wpAny_pure ⟨_, rfl, wpAny_pure (hY x t h₁ tk₁ gs' hb hx (fun b o h1 h2 e => hk₁ b o h1 (fun q => h2 (List.mem_singleton.mp q)) e) fun hn s'' a1 a2 a3 => ?_)⟩
      obtain ⟨m, rfl⟩ : ∃ m, n = m + 1 := ⟨n - 1, by omega⟩
      exact hkap (by omega) s'' a1 a2 a3
end
end
section
open PySem PySem.W PySem.Spec PySem.Calls PyProof.Rows
section
variable {prog : Program} {w : World} {A : Around} {E : Value → Shared → Prop} {s : Shared}
/-- an exception in flight where one object of the heap is changed -/
theorem flying_but {B h h' : Heap} {l : List Env} {e z : Addr} {cls a0 : Value} {oz : Obj} (x : Heap.FlyingW B l e cls a0 h) (hz : B.get? z = some oz) (hd : ∃ vs, oz.data = .fields vs) (hs : Heap.SameBut z h h') : Heap.FlyingW (B.hide z) l e cls a0 h' := by
  obtain ⟨f1, f2, f3, oe, ws, T, oT, ts, he, hc, hd1, h1, hn, hne, hT, hdT, h3⟩ := x
  have hez : e ≠ z := fun q => by rw [q, hz] at f2; cases f2
  have hTz : T ≠ z := fun q => by rw [q, hz] at hn; cases hn
  have hnone : ∀ b, B.get? b = none → (B.hide z).get? b = none := fun b hb => by
    cases q : (B.hide z).get? b with
    | none => rfl
    | some o => have := Heap.of_hide q; rw [hb] at this; cases this
  refine ⟨fun b o q => ?_, hnone _ f2, ?_, oe, ws, T, oT, ts, hs.extBut _ _ hez he, hc, hd1, h1, hnone _ hn, hne, hs.extBut _ _ hTz hT, hdT, h3⟩
  · have q' := Heap.of_hide q
    refine hs.extBut b o (fun e2 => ?_) (f1 b o q')
    subst e2
    have := Heap.hide_self B b
    rw [this] at q; cases q
  · have h4 : h'.FunFrames B l := f3.of_keeps fun b o e hnf => ⟨o, hs.extBut b o (fun q => by
      subst q
      rw [f1 _ _ hz] at e; cases e
      obtain ⟨vs, hv⟩ := hd
      exact hnf vs hv) e, rfl⟩
    clear f3
    induction l with
    | nil => trivial
    | cons env r ih =>
      obtain ⟨hk, ⟨L, o, hf, hn0, ho, hd2⟩, hr⟩ := h4
      exact ⟨hk, ⟨L, o, hf, hnone _ hn0, ho, hd2⟩, ih hr⟩
/-- which objects are which: the zip, its two pairs, the counter, the walk, the walk's frame and the walk's own iterator -/
structure ZApart (z TI TO I1 G Lg I : Addr) : Prop where
  TIz : TI ≠ z
  TOz : TO ≠ z
  I1z : I1 ≠ z
  Gz : G ≠ z
  Lz : Lg ≠ z
  Iz : I ≠ z
  TITO : TI ≠ TO
  TII1 : TI ≠ I1
  TIL : TI ≠ Lg
  TII : TI ≠ I
  TOI1 : TO ≠ I1
  TOG : TO ≠ G
  TOL : TO ≠ Lg
  TOI : TO ≠ I
  I1G : I1 ≠ G
  I1L : I1 ≠ Lg
  I1I : I1 ≠ I
  GL : G ≠ Lg
  GI : G ≠ I
theorem zip_step {z TI TO I1 G Lg I : Addr} {i left : Int} {a b : Value} {gn n : Nat} {gst : GenState} {bs : List Int} {g : Heap} {l : List Env} {Q : Value → Shared → Prop}
    (hh : A.handled = none) (D : ZApart z TI TO I1 G Lg I) (hnf : ∀ b ∈ [z, TO, I1, G], b ∉ l.filterMap (·.frame)) (hgz : g.get? z = none)
    (hz : IsZip s.heap z TI TO .none) (hTI : IsPair s.heap TI (.ref I1) (.ref G)) (hTO : IsPair s.heap TO a b) (h1 : IsRangeIter s.heap I1 i left 1) (hleft : 0 < left)
    (hG : s.heap.IsGen G gn) (hroom : A.depth < recursionLimit) (hgs : s.gens[gn]? = some gst)
    (hl : ∀ h' : Heap, (∀ b o, b ≠ z → b ≠ TO → b ≠ I1 → s.heap.get? b = some o → h'.get? b = some o) → h'.NoLimit)
    (hgo : ∀ s'' : Shared, (∀ b o, b ≠ z → b ≠ TO → b ≠ I1 → s.heap.get? b = some o → s''.heap.get? b = some o) → s''.heap.objs.size = s.heap.objs.size → gst.Goes (model prog w) A.in1 (GR bs g Lg I l) (GY bs g Lg I) n (.send .none) s'')
    (hY : ∀ (x : Int) (t1 t2 : Tok) (T : Addr) (h' : Heap) (tk' : Nat) (gs' : GenState), gs'.bare = true → gnext bs (11 - (n - 1)) = .val x → IsZip h' z TI TO (rawInt T) → IsPair h' TO (.int i t1) (.int x t2) → IsRangeIter h' I1 (i + 1) (left - 1) 1 → IsPair h' T (.int i t1) (.int x t2) →
      (∀ c o, c ≠ Lg → c ≠ I → s.heap.get? c = some o → c ≠ T) → (∀ c o, c ≠ z → c ≠ TO → c ≠ I1 → c ≠ Lg → c ≠ I → s.heap.get? c = some o → h'.get? c = some o) →
      (1 < n → ∀ s'' : Shared, g.StaysIn s''.heap → (∀ o, h'.get? Lg = some o → s''.heap.get? Lg = some o) → (∀ o, h'.get? I = some o → s''.heap.get? I = some o) → gs'.Goes (model prog w) A.in1 (GR bs g Lg I l) (GY bs g Lg I) (n - 1) (.send .none) s'') →
      Q (.ref T) { s with heap := h', toks := tk', gens := ((s.setGen gn .running).setGen gn gs').gens })
    (hok : ∀ h' e tk', gnext bs (12 - n) = .stop → (∀ c o, c ≠ z → c ≠ TO → c ≠ I1 → c ≠ Lg → c ≠ I → s.heap.get? c = some o → h'.get? c = some o) → (∃ o, h'.get? e = some o ∧ o.cls = .type "StopIteration") →
      E (.ref e) { s with heap := h', toks := tk', gens := ((s.setGen gn .running).setGen gn .finished).gens })
    (herr : ∀ e t vs h' tk' B, gnext bs (12 - n) = .bad → (∀ c o, c ≠ z → c ≠ TO → c ≠ I1 → c ≠ Lg → c ≠ I → c ∉ l.filterMap (·.frame) → s.heap.get? c = some o → B.get? c = some o) → Heap.FlyingW B l e (.type "ValueError") (.ref t) h' → h'.TupAt t vs → B.get? t = none → g.UpToSlots h' →
      E (.ref e) { s with heap := h', toks := tk', gens := ((s.setGen gn .running).setGen gn .finished).gens }) :
    wpAny (model prog w) A (Builtin.«zip.__next__» ⟨[.ref z], []⟩) (fun fin s' => ∃ v, fin = .done (.ret v) ∧ Q v s') E s := by
  show wpAny _ _ (field (.ref z) 2 >>= _) _ _ _
  refine wpAny_bind (wpAny_field hz rfl (x := .bool false) rfl ?_)
  show wpAny _ _ (field (.ref z) 3 >>= _) _ _ _
  refine wpAny_bind (wpAny_field hz rfl (x := .ref TI) rfl ?_)
  refine wpAny_bind (wpAny_seqItems hTI rfl ?_)
  show wpAny _ _ (Builtin.SmallTypes.ownedTupleIsFree (.ref z) >>= _) _ _ _
  refine wpAny_bind ?_
  unfold Builtin.SmallTypes.ownedTupleIsFree
  refine wpAny_bind (wpAny_field hz rfl (x := .none) rfl (wpAny_pure ?_))
  simp only [if_true]
  refine wpAny_bind (wpAny_rule ?_)
  refine wpAny_bind (wpAny_field hz rfl (x := .ref TO) rfl ?_)
  refine wpAny_bind (wpAny_setField_rec hz (by simp) fun h₁ hz₁ hs₁ => ?_)
  replace hz₁ : IsZip h₁ z TI TO .ellipsis := hz₁
  refine wpAny_bind ?_
  simp only [List.zipIdx_cons, List.zipIdx_nil, List.forIn_cons, List.forIn_nil]
  refine wpAny_bind (wpAny_bind (wpAny_onRaise ?_))
  show wpAny _ _ (Builtin.SmallTypes.nextOf (.ref I1) >>= _) _ _ _
  refine wpAny_bind (nextOf_range_item (hs₁.extBut _ _ D.I1z h1) hleft fun h₂ t1 h1₂ hs₂ => wpAny_pure ?_)
  have hTO₂ : IsPair h₂ TO a b := hs₂.extBut _ _ D.TOI1 (hs₁.extBut _ _ D.TOz hTO)
  refine wpAny_bind (wpAny_seqItems hTO₂ rfl ?_)
  refine wpAny_bind (wpAny_updateSeq_pair hTO₂ fun h₃ hTO₃ hs₃ => ?_)
  replace hTO₃ : IsPair h₃ TO (.int i t1) b := hTO₃
  refine wpAny_bind (wpAny_letGo (wpAny_pure ?_))
  have hk₃ : ∀ c o, c ≠ z → c ≠ TO → c ≠ I1 → s.heap.get? c = some o → h₃.get? c = some o := fun c o c1 c2 c3 e => hs₃.extBut _ _ c2 (hs₂.extBut _ _ c3 (hs₁.extBut _ _ c1 e))
  have hsz₃ : h₃.objs.size = s.heap.objs.size := by rw [hs₃.1, hs₂.1, hs₁.1]
  have hz₃ : IsZip h₃ z TI TO .ellipsis := hs₃.extBut _ _ D.TOz.symm (hs₂.extBut _ _ D.I1z.symm hz₁)
  have h1₃ : IsRangeIter h₃ I1 (i + 1) (left - 1) 1 := hs₃.extBut _ _ D.TOI1.symm h1₂
  have hG₃ : h₃.IsGen G gn := by
    obtain ⟨o, nm, qn, ho, r⟩ := hG
    exact ⟨o, nm, qn, hk₃ G o D.Gz D.TOG.symm D.I1G.symm ho, r⟩
  refine wpAny_bind (wpAny_bind (wpAny_onRaise ?_))
  show wpAny _ _ (Builtin.SmallTypes.nextOf (.ref G) >>= _) _ _ _
  refine wpAny_bind (nextOf_gen (n := n) (bs := bs) (g := g) (Lg := Lg) (I := I) (l := l) hh (hl _ hk₃) hroom D.GL D.GI (hnf G (by simp)) hG₃ hgs (hgo _ hk₃ hsz₃) (fun x t2 h₄ tk₄ gs' hb hgx hk₄ hkap => wpAny_pure ?_) (fun h₄ e tk₄ hst hk₄ he => ?_) (fun e t vs h₄ tk₄ B hbad hB hfl htup hBt hus => ?_))
  · have hz₄ : IsZip h₄ z TI TO .ellipsis := hk₄ _ _ D.Lz.symm D.Iz.symm hz₃
    have hTO₄ : IsPair h₄ TO (.int i t1) b := hk₄ _ _ D.TOL D.TOI hTO₃
    have h1₄ : IsRangeIter h₄ I1 (i + 1) (left - 1) 1 := hk₄ _ _ D.I1L D.I1I h1₃
    refine wpAny_bind (wpAny_seqItems hTO₄ rfl ?_)
    refine wpAny_bind (wpAny_updateSeq_pair hTO₄ fun h₅ hTO₅ hs₅ => ?_)
    replace hTO₅ : IsPair h₅ TO (.int i t1) (.int x t2) := hTO₅
    refine wpAny_bind (wpAny_letGo (wpAny_pure (wpAny_pure ?_)))
    refine wpAny_bind (wpAny_seqItems hTO₅ rfl ?_)
    refine wpAny_bind (wpAny_newTuple ?_)
    have hz₅ : IsZip h₅ z TI TO .ellipsis := hs₅.extBut _ _ D.TOz.symm hz₄
    have h1₅ : IsRangeIter h₅ I1 (i + 1) (left - 1) 1 := hs₅.extBut _ _ D.TOI1.symm h1₄
    have hzlt : z < h₅.objs.size := Heap.lt_size hz₅
    show wpAny _ _ (Builtin.SmallTypes.ownedTupleHandOut (.ref z) (.ref h₅.objs.size) >>= _) _ _ _
    refine wpAny_bind ?_
    unfold Builtin.SmallTypes.ownedTupleHandOut
    have hz₆ : IsZip (h₅.push { cls := .type "tuple", data := .seq #[.int i t1, .int x t2] }) z TI TO .ellipsis := Heap.get?_push_of_some _ hz₅
    refine wpAny_bind (wpAny_setField_rec hz₆ (by simp) fun h₇ hz₇ hs₇ => ?_)
    replace hz₇ : IsZip h₇ z TI TO (rawInt h₅.objs.size) := hz₇
    refine wpAny_setField_rec hz₇ (by simp) fun h₈ hz₈ hs₈ => ?_
    replace hz₈ : IsZip h₈ z TI TO (rawInt h₅.objs.size) := hz₈
    have up : ∀ c o, c ≠ z → h₅.get? c = some o → h₈.get? c = some o := fun c o c1 e => hs₈.extBut _ _ c1 (hs₇.extBut _ _ c1 (Heap.get?_push_of_some _ e))
    have hT₈ : IsPair h₈ h₅.objs.size (.int i t1) (.int x t2) := hs₈.extBut _ _ (Nat.ne_of_gt hzlt) (hs₇.extBut _ _ (Nat.ne_of_gt hzlt) (Heap.get?_push_size _ rfl))
    refine wpAny_pure ⟨_, rfl, ?_⟩
    have hk₈ : ∀ c o, c ≠ z → c ≠ TO → c ≠ I1 → c ≠ Lg → c ≠ I → s.heap.get? c = some o → h₈.get? c = some o := fun c o c1 c2 c3 c4 c5 e => up c o c1 (hs₅.extBut _ _ c2 (hk₄ c o c4 c5 (hk₃ c o c1 c2 c3 e)))
    refine hY x t1 t2 h₅.objs.size h₈ tk₄ gs' hb hgx hz₈ (up _ _ D.TOz hTO₅) (up _ _ D.I1z h1₅) hT₈ (fun c o c4 c5 e => ?_) hk₈ fun hn s'' a1 a2 a3 => ?_
    · have live : ∃ o', h₅.get? c = some o' := by
        by_cases c1 : c = z
        · subst c1; exact ⟨_, hz₅⟩
        by_cases c2 : c = TO
        · subst c2; exact ⟨_, hTO₅⟩
        by_cases c3 : c = I1
        · subst c3; exact ⟨_, h1₅⟩
        exact ⟨o, hs₅.extBut _ _ c2 (hk₄ c o c4 c5 (hk₃ c o c1 c2 c3 e))⟩
      obtain ⟨o', ho'⟩ := live
      exact Nat.ne_of_lt (Heap.lt_size ho')
    · exact hkap hn s'' a1 (fun o e => a2 o (up _ _ D.Lz (hs₅.extBut _ _ D.TOL.symm e))) fun o e => a3 o (up _ _ D.Iz (hs₅.extBut _ _ D.TOI.symm e))
  · have hz₄ : IsZip h₄ z TI TO .ellipsis := hk₄ _ _ D.Lz.symm D.Iz.symm hz₃
    obtain ⟨oe, hoe, hce⟩ := he
    have hez : e ≠ z := fun x => by subst x; rw [hz₄] at hoe; cases hoe; simp at hce
    refine wpAny_setField_rec hz₄ (by simp) fun h₅ _ hs₅ => ?_
    exact hok h₅ e tk₄ hst (fun c o c1 c2 c3 c4 c5 e => hs₅.extBut _ _ c1 (hk₄ c o c4 c5 (hk₃ c o c1 c2 c3 e))) ⟨oe, hs₅.extBut _ _ hez hoe, hce⟩
  · have hzB : B.get? z = some _ := hB z _ D.Lz.symm D.Iz.symm (hnf z (by simp)) hz₃
    have hz₄ : IsZip h₄ z TI TO .ellipsis := hfl.1 _ _ hzB
    refine wpAny_setField_rec hz₄ (by simp) fun h₅ _ hs₅ => ?_
    refine herr e t vs h₅ tk₄ (B.hide z) hbad (fun c o c1 c2 c3 c4 c5 c6 e => ?_) (flying_but hfl hzB ⟨_, rfl⟩ hs₅) ?_ ?_ ?_
    · rw [Heap.hide_ne B c1]
      exact hB c o c4 c5 c6 (hk₃ c o c1 c2 c3 e)
    · obtain ⟨o, k, ho, r⟩ := htup
      have htz : t ≠ z := fun q => by rw [q, hzB] at hBt; cases hBt
      exact ⟨o, k, hs₅.extBut _ _ htz ho, r⟩
    · cases q : (B.hide z).get? t with
      | none => rfl
      | some o => have := Heap.of_hide q; rw [hBt] at this; cases this
    · intro c o e1 e2
      obtain ⟨sl, h3⟩ := hus c o e1 e2
      exact ⟨sl, hs₅.extBut _ _ (fun q => by rw [q, hgz] at e1; cases e1) h3⟩
end
end
section
open PySem PySem.W PySem.Spec PySem.Calls PyProof.Rows
section
variable {prog : Program} {w : World} {A : Around} {E : Value → Shared → Prop} {s : Shared}
abbrev zr1 (h : Heap) : Heap := h.push { cls := .type "range_iterator", data := .fields #[rawInt 0, rawInt 12, rawInt 1] }
abbrev zr2 (h : Heap) (G : Addr) : Heap := (zr1 h).push { cls := .type "tuple", data := .seq #[.ref h.objs.size, .ref G] }
abbrev zr3 (h : Heap) (G : Addr) : Heap := (zr2 h G).push { cls := .type "tuple", data := .seq #[.none, .none] }
abbrev zr4 (h : Heap) (G : Addr) : Heap := (zr3 h G).push { cls := .type "zip", data := .fields #[.none, .bool false, .bool false, .ref (zr1 h).objs.size, .ref (zr2 h G).objs.size] }
theorem meets_zip_rg (r G : Addr) (t u v : Tok) (gn : Nat) :
    Meets (Builtin.«zip.__new__» ⟨[.type "zip", .ref r, .ref G], []⟩) (fun _ R s => IsRange s.heap r 0 12 1 t u v ∧ s.heap.IsGen G gn ∧
      R (.ok (.ret (.ref (zr3 s.heap G).objs.size))) { s with heap := zr4 s.heap G }) :=
  .of_wp fun prog w A R s h => by
    obtain ⟨hp, g, d, tk, os⟩ := s; obtain ⟨hr, hG, h⟩ := h
    have hsub := sub_zip
    have hR : IsRange (Shared.heap ⟨hp, g, d, tk, os⟩) r 0 12 1 t u v := hr
    have hG2 : Heap.IsGen (Shared.heap ⟨hp.push { cls := .type "range_iterator", data := .fields #[rawInt 0, rawInt (Builtin.Range.rangeSize 0 12 1), rawInt 1] }, g, d, tk, os⟩) G gn := Heap.IsGen.push hG _
    wp_walk using wpAny_pyIter_range hR (by decide), wpAny_pyIter_gen hG2
    exact ⟨_, rfl, h⟩
theorem call_zip_rg {r G : Addr} {t u v : Tok} {gn : Nat} {Q : Value → Shared → Prop} (hr : IsRange s.heap r 0 12 1 t u v) (hG : s.heap.IsGen G gn)
    (h : ∀ h', IsZip h' (s.heap.objs.size + 3) (s.heap.objs.size + 1) (s.heap.objs.size + 2) .none → IsPair h' (s.heap.objs.size + 1) (.ref s.heap.objs.size) (.ref G) →
      IsPair h' (s.heap.objs.size + 2) .none .none → IsRangeIter h' s.heap.objs.size 0 12 1 → h'.objs.size = s.heap.objs.size + 4 →
      (∀ c o, s.heap.get? c = some o → h'.get? c = some o) → Q (.ref (s.heap.objs.size + 3)) { s with heap := h' }) :
    wpAny (model prog w) A (call (.type "zip") [.ref r, .ref G]) Q E s := by
  refine callType_new F.called_zip (by decide) (F.typeCall_zip_2 _ _) (F.newCall_zip_2 _ _) (fun obj => F.args_object_init_3 obj _ _) F.entry_zip_new
    (meets_zip_rg r G t u v gn) ⟨hr, hG, ?_⟩
  have z1 : (zr1 s.heap).objs.size = s.heap.objs.size + 1 := Heap.size_push ..
  have z2 : (zr2 s.heap G).objs.size = s.heap.objs.size + 2 := by rw [Heap.size_push, z1]
  have z3 : (zr3 s.heap G).objs.size = s.heap.objs.size + 3 := by rw [Heap.size_push, z2]
  have z4 : (zr4 s.heap G).objs.size = s.heap.objs.size + 4 := by rw [Heap.size_push, z3]
  have g4 : (zr4 s.heap G).get? (zr3 s.heap G).objs.size = some _ := Heap.get?_push_size _ rfl
  have g3 : (zr4 s.heap G).get? (zr2 s.heap G).objs.size = some _ := Heap.get?_push_of_some _ (Heap.get?_push_size _ rfl)
  have g2 : (zr4 s.heap G).get? (zr1 s.heap).objs.size = some _ := Heap.get?_push_of_some _ (Heap.get?_push_of_some _ (Heap.get?_push_size _ rfl))
  have g1 : (zr4 s.heap G).get? s.heap.objs.size = some _ := Heap.get?_push_of_some _ (Heap.get?_push_of_some _ (Heap.get?_push_of_some _ (Heap.get?_push_size _ rfl)))
  show _ ∧ _
  rw [z1, z2, z3] at g4
  rw [z1] at g2
  rw [z2] at g3
  rw [z3]
  exact ⟨⟨_, g4, rfl⟩, h _ g4 g2 g3 g1 z4 fun c o x =>
    Heap.get?_push_of_some _ (Heap.get?_push_of_some _ (Heap.get?_push_of_some _ (Heap.get?_push_of_some _ x)))⟩
theorem zip_end {z TI TO I1 G : Addr} {i left : Int} {Q : PySem.Fin → Shared → Prop} (hh : A.handled = none) (hI : I1 ≠ z)
    (hz : IsZip s.heap z TI TO .none) (hTI : IsPair s.heap TI (.ref I1) (.ref G)) (h1 : IsRangeIter s.heap I1 i left 1) (hleft : left ≤ 0)
    (hE : ∀ h' e, (∀ c o, c ≠ z → s.heap.get? c = some o → h'.get? c = some o) → (∃ o, h'.get? e = some o ∧ o.cls = .type "StopIteration") → E (.ref e) { s with heap := h' }) :
    wpAny (model prog w) A (Builtin.«zip.__next__» ⟨[.ref z], []⟩) Q E s := by
  show wpAny _ _ (field (.ref z) 2 >>= _) _ _ _
  refine wpAny_bind (wpAny_field hz rfl (x := .bool false) rfl ?_)
  show wpAny _ _ (field (.ref z) 3 >>= _) _ _ _
  refine wpAny_bind (wpAny_field hz rfl (x := .ref TI) rfl ?_)
  refine wpAny_bind (wpAny_seqItems hTI rfl ?_)
  show wpAny _ _ (Builtin.SmallTypes.ownedTupleIsFree (.ref z) >>= _) _ _ _
  refine wpAny_bind ?_
  unfold Builtin.SmallTypes.ownedTupleIsFree
  refine wpAny_bind (wpAny_field hz rfl (x := .none) rfl (wpAny_pure ?_))
  simp only [if_true]
  refine wpAny_bind (wpAny_rule ?_)
  refine wpAny_bind (wpAny_field hz rfl (x := .ref TO) rfl ?_)
  refine wpAny_bind (wpAny_setField_rec hz (by simp) fun h₁ hz₁ hs₁ => ?_)
  replace hz₁ : IsZip h₁ z TI TO .ellipsis := hz₁
  refine wpAny_bind ?_
  simp only [List.zipIdx_cons, List.zipIdx_nil, List.forIn_cons, List.forIn_nil]
  refine wpAny_bind (wpAny_bind (wpAny_onRaise ?_))
  show wpAny _ _ (Builtin.SmallTypes.nextOf (.ref I1) >>= _) _ _ _
  refine wpAny_bind (nextOf_range_end hh (hs₁.extBut _ _ hI h1) hleft fun h₂ e hk₂ he => ?_)
  have hz₂ : IsZip h₂ z TI TO .ellipsis := hk₂ _ _ hz₁
  obtain ⟨oe, hoe, hce⟩ := he
  have hez : e ≠ z := fun x => by subst x; rw [hz₂] at hoe; cases hoe; simp at hce
  refine wpAny_setField_rec hz₂ (by simp) fun h₃ _ hs₃ => ?_
  exact hE h₃ e (fun c o c1 x => hs₃.extBut _ _ c1 (hk₂ _ _ (hs₁.extBut _ _ c1 x))) ⟨oe, hs₃.extBut _ _ hez hoe, hce⟩
/-- asking a zip for its next pair, whatever comes of it -/
theorem pyNext_zip {z : Addr} {Q : Option Value → Shared → Prop} (hT : s.TypeIs (.ref z) "zip")
    (h : wpAny (model prog w) A.in1 (Builtin.«zip.__next__» ⟨[.ref z], []⟩) (fun fin s' => ∃ v, fin = .done (.ret v) ∧ Q (some v) s')
      (fun e s' => ∃ T b, s'.TypeIs e T ∧ isSubtype (.type T) (.type "StopIteration") = pure b ∧ if b = true then Q none s' else E e s') s) :
    wpAny (model prog w) A (pyNext (.ref z)) Q E s := by
  unfold pyNext
  refine wpAny_bind (wpAny_attempt (wpAny_callSpecial?_slot (name := Str.ofString "__next__") hT F.slot_zip_next
    (wpAny_call_entry F.slot_zip_next hT F.entry_zip_next (wpAny_mono h (fun fin s' h' => ?_) fun e s' h' => ?_) (F.args_zip_next_1 _))))
  · obtain ⟨v, rfl, hq⟩ := h'
    exact ⟨v, rfl, wpAny_pure hq⟩
  · obtain ⟨T, b, hT', hs, hq⟩ := h'
    refine wpAny_bind (wpAny_isInstance hT' hs ?_)
    cases b with
    | true => rw [if_pos rfl] at hq ⊢; exact wpAny_pure hq
    | false => rw [if_neg Bool.false_ne_true] at hq ⊢; exact wpAny_throw hq
end
end
section
set_option maxRecDepth 100000
open PySem PySem.W PySem.Spec PySem.Calls PyProof.Rows PyProof.Rows.LCg
/-- the sizes told -/
def ToldSome (bs zs : List Int) : Prop := (∀ k, k < zs.length → gnext bs k = .val (zs.getD k 0)) ∧ (zs.length = 12 ∨ (zs.length < 12 ∧ gnext bs zs.length = .stop))
def ToldBad (bs : List Int) : Prop := ∃ i, i < 12 ∧ gnext bs i = .bad
/-- an exception in flight, its mark what it may be -/
def FlyAt (B : Heap) (l : List Env) (e : Addr) (cls a0 fl : Value) (h : Heap) : Prop := B.StaysIn h ∧ B.get? e = none ∧ h.FunFrames B l ∧ h.TracedAtW B e cls a0 fl
theorem FlyAt.but {B h h' : Heap} {l : List Env} {e z : Addr} {cls a0 fl : Value} {oz : Obj} (x : FlyAt B l e cls a0 fl h) (hz : B.get? z = some oz) (hs : Heap.SameBut z h h') : FlyAt (B.hide z) l e cls a0 fl h' := by
  obtain ⟨f1, f2, f3, oe, ws, T, oT, ts, he, hc, hd1, h1, hn, hne, hT, hdT, h3⟩ := x
  have hez : e ≠ z := fun q => by rw [q, hz] at f2; cases f2
  have hTz : T ≠ z := fun q => by rw [q, hz] at hn; cases hn
  have hnone : ∀ b, B.get? b = none → (B.hide z).get? b = none := fun b hb => by
    cases q : (B.hide z).get? b with
    | none => rfl
    | some o => have := Heap.of_hide q; rw [hb] at this; cases this
  refine ⟨fun b o q => ?_, hnone _ f2, ?_, oe, ws, T, oT, ts, hs.extBut _ _ hez he, hc, hd1, h1, hnone _ hn, hne, hs.extBut _ _ hTz hT, hdT, h3⟩
  · have q' := Heap.of_hide q
    refine hs.extBut b o (fun e2 => ?_) (f1 b o q')
    subst e2
    rw [Heap.hide_self B b] at q; cases q
  · clear h1
    induction l with
    | nil => trivial
    | cons env r ih =>
      obtain ⟨hk, ⟨L, o, hf, hn0, ho, hd2⟩, hr⟩ := f3
      exact ⟨hk, ⟨L, o, hf, hnone _ hn0, hs.extBut _ _ (fun q => by rw [q, hz] at hn0; cases hn0) ho, hd2⟩, ih hr⟩
theorem FlyAt.there {B h : Heap} {l : List Env} {e : Addr} {cls a0 fl : Value} (x : FlyAt B l e cls a0 fl h) : ∃ ob, h.get? e = some ob ∧ ob.cls = cls := x.2.2.2.there
section
variable {M : Model} {A : Around} {E : Value → Shared → Prop} {s : Shared}
/-- a frame's entry, wherever the mark stood -/
theorem noteFrame_any {base : Heap} {env env' : Env} {outer : List Env} {L e : Addr} {cls a0 fl : Value} {Q : Unit → Shared → Prop}
    (hfr : A.frames = some (env :: outer)) (hf : env.frame = some L) (hf' : env'.frame = some L) (R : FlyAt base (env :: outer) e cls a0 fl s.heap)
    (h : ∀ h', FlyAt base (env :: outer) e cls a0 (rawInt L) h' → s.heap.UpToSlots h' → Q () { s with heap := h' }) : wpAny M A (noteFrame (.ref e) env') Q E s := by
  have e1 : noteFrame (.ref e) env' = noteFrame (.ref e) env := by
    unfold noteFrame PySem.frameOf
    rw [hf, hf']
  rw [e1]
  obtain ⟨hkb, hen, hl, oe, vs, T, oT, ts, he, ⟨hcls, h0⟩, hd, h1, hnT, hTe, hT, hdT, h3⟩ := R
  subst hcls
  unfold noteFrame
  simp only [hf]
  refine wpAny_bind (wpAny_field he hd h1 ?_)
  rw [if_pos (show (Value.ref T != Value.none) = true from by simp)]
  refine wpAny_bind (wpAny_field hT hdT h3 ?_)
  by_cases hfl : (fl == rawInt L) = true
  · rw [if_pos hfl]
    have : fl = rawInt L := by simpa using hfl
    subst this
    exact wpAny_pure (h s.heap ⟨hkb, hen, hl, oe, vs, T, oT, ts, he, ⟨rfl, h0⟩, hd, h1, hnT, hTe, hT, hdT, h3⟩ (Heap.UpToSlots.refl _))
  · rw [if_neg hfl]
    have hne : ∀ b, b ≠ T → (s.heap.update T (Obj.mapFields (·.setIfInBounds 3 Value.none))).get? b = s.heap.get? b := fun b hb => Heap.get?_update_other _ _ (Ne.symm hb)
    have hno : ∀ b o, s.heap.get? b = some o → (∀ vs, o.data ≠ .fields vs) → b ≠ T := fun b o hb hnf q => by
      rw [q, hT] at hb; cases hb; exact hnf ts hdT
    refine wpAny_bind (wpAny_setField hT hdT (Array.getElem?_eq_some_iff.mp h3).1 ?_)
    refine wpAny_entryW hfr (hl.of_keeps fun b o hb hnf => ⟨o, (hne b (hno b o hb hnf)).trans hb, rfl⟩) hf ((hne e (Ne.symm hTe)).trans he)
      (fun b o hb => (hne b fun q => by rw [q, hnT] at hb; cases hb).trans (hkb b o hb)) hen hd (Array.getElem?_eq_some_iff.mp h1).1 h0 fun h' ⟨x1, x2, x3, x4⟩ => ?_
    exact h h' ⟨x1, hen, x2, x3⟩ fun b o hb hnf => x4 b o ((hne b (hno b o hb hnf)).trans hb) hnf
theorem setFlight_any {base : Heap} {l : List Env} {e : Addr} {cls a0 fl : Value} {f : Option Addr} {Q : Unit → Shared → Prop} (R : FlyAt base l e cls a0 fl s.heap)
    (h : ∀ h', FlyAt base l e cls a0 (f.elim Value.none fun f => rawInt f) h' → s.heap.UpToSlots h' → Q () { s with heap := h' }) : wpAny M A (setFlight (.ref e) f) Q E s := by
  obtain ⟨hkb, hen, hl, oe, vs, T, oT, ts, he, hcls, hd, h1, hnT, hTe, hT, hdT, h3⟩ := R
  have hsz : 3 < ts.size := (Array.getElem?_eq_some_iff.mp h3).1
  have hne : ∀ b, b ≠ T → (s.heap.update T (Obj.mapFields (·.setIfInBounds 3 (f.elim Value.none fun f => rawInt f)))).get? b = s.heap.get? b :=
    fun b hb => Heap.get?_update_other _ _ (Ne.symm hb)
  have hno : ∀ b o, s.heap.get? b = some o → (∀ vs, o.data ≠ .fields vs) → b ≠ T := fun b o hb hnf q => by
    rw [q, hT] at hb; cases hb; exact hnf ts hdT
  unfold setFlight
  refine wpAny_bind (wpAny_field he hd h1 ?_)
  rw [if_pos (show (Value.ref T != Value.none) = true from by simp)]
  refine wpAny_setField hT hdT hsz (h _ ⟨fun b o hb => (hne b fun q => by rw [q, hnT] at hb; cases hb).trans (hkb b o hb), hen,
    hl.of_keeps fun b o hb hnf => ⟨o, (hne b (hno b o hb hnf)).trans hb, rfl⟩, ?_⟩ fun b o hb hnf => ⟨o.slots, (hne b (hno b o hb hnf)).trans hb⟩)
  exact ⟨oe, vs, T, _, _, (hne e (Ne.symm hTe)).trans he, hcls, hd, h1, hnT, hTe, Heap.get?_update_self _ hT (Obj.isFreed_of_fields (Obj.data_mapFields hdT _)), Obj.data_mapFields hdT _, by simp [hsz]⟩
/-- the variables of a comprehension are let go, an exception in flight -/
theorem passOn_any {base : Heap} {l : List Env} {e : Addr} {cls a0 fl : Value} {env : Env} {α : Type} {what : String} {Q : α → Shared → Prop} (R : FlyAt base l e cls a0 fl s.heap)
    (h : ∀ h' fl', FlyAt base l e cls a0 fl' h' → s.heap.UpToSlots h' → E (.ref e) { s with heap := h' }) : wpAny M A (PySem.passOn what (.ref e) env : Sem α) Q E s := by
  obtain ⟨_, _, _, oe, vs, T, oT, ts, he, hcls, hd, h1, _⟩ := id R
  unfold PySem.passOn
  refine wpAny_bind (wpAny_field he hd h1 ?_)
  rw [if_neg (show ¬ ((Value.ref T == Value.none) = true) from by simp)]
  first
    | exact wpAny_bind (setFlight_any R fun h' R' u => wpAny_throw (h h' _ R' u))
    | exact wpAny_bind (wpAny_pure (wpAny_bind (setFlight_any R fun h' R' u => wpAny_throw (h h' _ R' u))))
end
end
section
set_option maxRecDepth 100000
open PySem PySem.W PySem.Spec PySem.Calls PyProof.Rows PyProof.Rows.LCg
/-- the walk as it stands after i steps -/
def GLive (w : World) (A : Around) (bs : List Int) (g hb : Heap) (l : List Env) (code : Code) (lim i : Nat) (h : Heap) (gst : GenState) : Prop :=
  (i = 0 ∧ gst = .fresh code ∧ hb.StaysIn h) ∨
  (0 < i ∧ ∃ I, lim ≤ I ∧ (i < 12 → ∀ s'' : Shared, g.StaysIn s''.heap → (∀ o, h.get? g.objs.size = some o → s''.heap.get? g.objs.size = some o) → (∀ o, h.get? I = some o → s''.heap.get? I = some o) →
    gst.Goes (model PySem.Challenge.rw_pa0026_01.row.prog w) A (GR bs g g.objs.size I l) (GY bs g g.objs.size I) (12 - i) (.send .none) s''))
/-- the whole comprehension after i steps -/
structure TAt (w : World) (A : Around) (bs : List Int) (g hb : Heap) (l : List Env) (code : Code) (gn n0 : Nat) (gs₀ : Array GenState) (i : Nat) (zs : List Int) (ys : List Value) (h : Heap) (gens : Array GenState) (gst : GenState) (m' : Str → Option Value) : Prop where
  len : zs.length = i
  le : i ≤ 12
  told : ∀ k, k < i → gnext bs k = .val (zs.getD k 0)
  isints : IntsAre ys zs
  keep : ∀ c o, c ≠ g.objs.size → hb.get? c = some o → h.get? c = some o
  zip : IsZip h (n0 + 3) (n0 + 1) (n0 + 2) .none
  pair : IsPair h (n0 + 1) (.ref n0) (.ref (g.objs.size + 1))
  handed : ∃ a b, IsPair h (n0 + 2) a b
  cnt : IsRangeIter h n0 (i : Int) (12 - (i : Int)) 1
  lst : h.get? (n0 + 4) = some (LCg.lst ys)
  ns : h.Ns (n0 + 5) m'
  gen : gens[gn]? = some gst
  bare : AllBare gs₀ → AllBare gens
  live : GLive w A bs g hb l code (n0 + 6) i h gst
theorem ltSz {h : Heap} {a : Nat} {o : Obj} (e : h.get? a = some o) : @LT.lt Nat instLTNat a h.objs.size := Heap.lt_size e
theorem neN {a b : Nat} (h : ¬ @Eq Nat a b) : @Ne Addr a b := h
theorem r1 {n a b : Nat} (h : a ≠ b) : n + a ≠ n + b := fun e => h (Nat.add_left_cancel e)
theorem r2 {n b : Nat} (h : 0 < b) : n ≠ n + b := Nat.ne_of_lt (Nat.lt_add_of_pos_right h)
theorem cLt {c G n : Nat} (h : c < G) (h2 : G + 2 ≤ n) : c < n := Nat.lt_of_lt_of_le h (Nat.le_trans (Nat.le_add_right _ _) h2)
theorem r3 {c n : Nat} (h : c < n) (k : Nat) : c ≠ n + k := Nat.ne_of_lt (Nat.lt_of_lt_of_le h (Nat.le_add_right _ _))
theorem r4 {G n : Nat} (h : G + 2 ≤ n) : G + 1 < n := h
theorem r5 {n I k : Nat} (h : n + 6 ≤ I) (hk : k < 6) : n + k ≠ I := Nat.ne_of_lt (Nat.lt_of_lt_of_le (Nat.add_lt_add_left hk n) h)
theorem r6 {n I : Nat} (h : n + 6 ≤ I) : n < I := Nat.lt_of_lt_of_le (Nat.lt_add_of_pos_right (by decide)) h
theorem r7 {G n : Nat} (h : G + 2 ≤ n) : G < n := Nat.lt_of_succ_lt h
theorem stepK {k : Nat} (h : k < 12) : 11 - (12 - k - 1) = k := by
  rw [show 12 - k - 1 = 11 - k from (Nat.sub_right_comm 12 k 1)]; exact Nat.sub_sub_self (Nat.le_of_lt_succ h)
theorem told_loop (w : World) {A : Around} {bs : List Int} {g hb base : Heap} {env : Env} {outer : List Env} {code : Code} {gn n0 : Nat} {s₂ : Shared} {L' : Addr} {scope : Scope} {cl : List (Str × Addr)} {pos pa pb tp ep : Pos} {kk : Nat} {iter : Expr}
    {a b : Str} {RR : Result → Shared → Prop} (hh : A.handled = none) (hfr : A.frames = some (env :: outer)) (hf : env.frame = some L') (hroom : A.depth < recursionLimit)
    (hff : g.FunFrames base (env :: outer)) (hlim : g.NoLimit) (hgb : g.StaysIn hb) (hG : hb.IsGen (g.objs.size + 1) gn) (hn0 : g.objs.size + 2 ≤ n0) (hbsz : hb.objs.size ≤ n0) (GF : GFresh w bs g hb g.objs.size base code)
    (hkind : scope.kind = .function) (hxa : scope.names.lookup a = some .local) (hxb : scope.names.lookup b = some .local) (hab : ¬ a = b) (hdb : (b == ("__debug__" : Str)) = false)
    (hok : ∀ h tk gens zs ys m', ToldSome bs zs → IntsAre ys zs → g.StaysIn h → h.get? (n0 + 4) = some (LCg.lst ys) → h.Ns (n0 + 5) m' → (AllBare s₂.gens → AllBare gens) → RR (.ok .next) { s₂ with heap := h, toks := tk, gens := gens })
    (herr : ∀ e t vs h tk gens B oC m', ToldBad bs → (AllBare s₂.gens → AllBare gens) → (∀ c o, c ∉ (env :: outer).filterMap (·.frame) → g.get? c = some o → B.get? c = some o) → FlyAt B (env :: outer) e (.type "ValueError") (.ref t) (rawInt L') h → h.TupAt t vs → B.get? t = none → g.UpToSlots h →
      B.get? (n0 + 5) = some oC → NsObj oC m' → RR (.error (.ref e)) { s₂ with heap := h, toks := tk, gens := gens }) :
    ∀ i zs ys h tk gens gst m', TAt w A.in1.in1 bs g hb (env :: outer) code gn n0 s₂.gens i zs ys h gens gst m' →
      codeAny (model PySem.Challenge.rw_pa0026_01.row.prog w) A (.compLoop (.ListComp (.Name b ep) [⟨.Tuple [.Name a pa, .Name b pb] kk tp, iter, [], 0⟩] scope pos) 0 (.ref (n0 + 3)) (.ref (n0 + 4)) (compEnvC scope cl (n0 + 5) env)) RR { s₂ with heap := h, toks := tk, gens := gens } := by
  k_with_none
  k_with "lt" => first | assumption | exact cLt (by assumption) hn0 | exact r7 hn0 | exact r4 hn0 | exact Nat.lt_of_lt_of_le (by assumption) hbsz | exact Nat.lt_succ_of_lt (by assumption) | exact Nat.lt_succ_self _ | exact r6 (by assumption) | exact Nat.lt_trans (cLt (by assumption) hn0) (r6 (by assumption)) | exact Nat.lt_trans (Nat.lt_of_lt_of_le (by assumption) hbsz) (r6 (by assumption)) | exact Nat.lt_trans (r7 hn0) (r6 (by assumption)) | exact Nat.lt_trans (r4 hn0) (r6 (by assumption))
  k_with "ne0" => first | assumption | exact r1 (by decide) | exact r2 (by decide) | exact r3 (by k_extra "lt") _ | exact r5 (by assumption) (by decide) | exact Nat.ne_of_lt (by k_extra "lt")
  k_with "ne" => first | k_extra "ne0" | exact Ne.symm (by k_extra "ne0") | (walk_say "NE FELL"; omega)
  intro i zs ys h tk gens gst m' H
  refine kcp_loop (fun k s => ∃ i zs ys h tk gens gst m', k = 13 - i ∧ s = { s₂ with heap := h, toks := tk, gens := gens } ∧ TAt w A.in1.in1 bs g hb (env :: outer) code gn n0 s₂.gens i zs ys h gens gst m') ?_ (13 - i) ⟨i, zs, ys, h, tk, gens, gst, m', rfl, rfl, H⟩
  clear H i zs ys h tk gens gst m'
  rintro k s ⟨i, zs, ys, h, tk, gens, gst, m', rfl, rfl, H⟩
  obtain ⟨hlen, hle, htold, hints, hkeep, hzip, hpair, ⟨a0, b0, hout⟩, hcnt, hlst, hns, hgen, hbare, hlive⟩ := H
  have hfrm : ∀ c, c ∈ (env :: outer).filterMap (·.frame) → @LT.lt Nat instLTNat c g.objs.size := fun c hc => by
    obtain ⟨_, o, ho, _⟩ := hff.mem hc
    exact ltSz ho
  have hgk : ∀ c o, g.get? c = some o → h.get? c = some o := fun c o e => hkeep c o (Nat.ne_of_lt (Heap.lt_size e)) (hgb c o e)
  have hGh : h.IsGen (g.objs.size + 1) gn := by
    obtain ⟨o, nm, qn, ho, r⟩ := hG
    exact ⟨o, nm, qn, hkeep _ _ (neN (by k_extra "ne")) ho, r⟩
  have hC5 : n0 + 5 < h.objs.size := hns.lt
  refine pyNext_zip ⟨_, hzip, rfl⟩ ?_
  by_cases hi : i = 12
  · subst hi
    refine zip_end hh (neN (by k_extra "ne")) hzip hpair hcnt (by omega) fun h₁ e hk₁ he => ?_
    obtain ⟨oe, hoe, hce⟩ := he
    refine ⟨"StopIteration", true, ⟨oe, hoe, hce⟩, isSubtype_stop, ?_⟩
    rw [if_pos rfl]
    refine hok h₁ tk gens zs ys m' ⟨by rw [hlen]; exact htold, .inl hlen⟩ hints (fun c o e => hk₁ c o (neN (by have := ltSz e; k_extra "ne")) (hgk c o e)) (hk₁ _ _ (neN (by k_extra "ne")) hlst) (hns.at' fun o e => hk₁ _ o (neN (by k_extra "ne")) e) hbare
  · obtain ⟨I, hI, hgo⟩ : ∃ I, n0 + 6 ≤ I ∧ ∀ s'' : Shared, (∀ b o, b ≠ n0 + 3 → b ≠ n0 + 2 → b ≠ n0 → h.get? b = some o → s''.heap.get? b = some o) → s''.heap.objs.size = h.objs.size →
        gst.Goes (model PySem.Challenge.rw_pa0026_01.row.prog w) A.in1.in1 (GR bs g g.objs.size I (env :: outer)) (GY bs g g.objs.size I) (12 - i) (.send .none) s'' := by
      rcases hlive with ⟨rfl, rfl, hst⟩ | ⟨hi0, I, hI, hgo⟩
      · refine ⟨h.objs.size, hC5, fun s'' hk hsz => ?_⟩
        rw [← hsz]
        exact GF A.in1.in1 (env :: outer) s'' hh hfr hff fun c o e => hk c o (neN (by have := ltSz e; k_extra "ne")) (neN (by have := ltSz e; k_extra "ne")) (neN (by have := ltSz e; k_extra "ne")) (hst c o e)
      · exact ⟨I, hI, fun s'' hk hsz => hgo (Nat.lt_of_le_of_ne hle hi) s'' (fun c o e => hk c o (neN (by have := ltSz e; k_extra "ne")) (neN (by have := ltSz e; k_extra "ne")) (neN (by have := ltSz e; k_extra "ne")) (hgk c o e)) (fun o e => hk _ o (neN (by k_extra "ne")) (neN (by k_extra "ne")) (neN (by k_extra "ne")) e) fun o e => hk _ o (neN (by k_extra "ne")) (neN (by k_extra "ne")) (neN (by k_extra "ne")) e⟩
    refine zip_step (i := i) (left := 12 - i) (gn := gn) (n := 12 - i) (gst := gst) (bs := bs) (g := g) (Lg := g.objs.size) (I := I) (l := env :: outer) hh ⟨neN (by k_extra "ne"), neN (by k_extra "ne"), neN (by k_extra "ne"), neN (by k_extra "ne"), neN (by k_extra "ne"), neN (by k_extra "ne"), neN (by k_extra "ne"), neN (by k_extra "ne"), neN (by k_extra "ne"), neN (by k_extra "ne"), neN (by k_extra "ne"), neN (by k_extra "ne"), neN (by k_extra "ne"), neN (by k_extra "ne"), neN (by k_extra "ne"), neN (by k_extra "ne"), neN (by k_extra "ne"), neN (by k_extra "ne"), neN (by k_extra "ne")⟩
      (fun b hb hm => ?_) ?_ hzip hpair hout hcnt (by omega) hGh hroom hgen (fun h' hk => ?_) hgo ?_ ?_ ?_
    · have := hfrm b hm
      simp only [List.mem_cons, List.not_mem_nil, or_false] at hb
      have hb' : @Eq Nat b (n0 + 3) ∨ @Eq Nat b (n0 + 2) ∨ @Eq Nat b n0 ∨ @Eq Nat b (g.objs.size + 1) := hb
      rcases hb' with e | e | e | e <;> exact absurd e (by k_extra "ne")
    · cases q : g.get? (n0 + 3) with
      | none => rfl
      | some o => exact absurd (ltSz q) (Nat.not_lt.mpr (Nat.le_trans (Nat.le_trans (Nat.le_add_right _ 2) hn0) (Nat.le_add_right _ 3)))
    · exact hlim.keeps fun c o e => hk c o (neN (by have := ltSz e; k_extra "ne")) (neN (by have := ltSz e; k_extra "ne")) (neN (by have := ltSz e; k_extra "ne")) (hgk c o e)
    · intro x t1 t2 T h₁ tk₁ gs' hb hgx hz₁ hTO₁ h1₁ hT₁ hTn hk₁ hkap
      have hTz : T ≠ n0 + 3 := fun q => hTn _ _ (neN (by k_extra "ne")) (neN (by k_extra "ne")) hzip q.symm
      refine wpAny_letOwnedTupleGo_zip hz₁ fun h₂ hz₂ hs₂ => ?_
      have hT₂ : IsPair h₂ T (.int i t1) (.int x t2) := hs₂.extBut _ _ hTz hT₁
      have hns₂ : h₂.Ns (n0 + 5) m' := hns.at' fun o e => hs₂.extBut _ o (neN (by k_extra "ne")) (hk₁ _ o (neN (by k_extra "ne")) (neN (by k_extra "ne")) (neN (by k_extra "ne")) (neN (by k_extra "ne")) (neN (by k_extra "ne")) e)
      refine kcp_assign (env := compEnvC scope cl (n0 + 5) env) hh ⟨_, hT₂, rfl, _, rfl⟩ (lookup_relabel_local hxa) (lookup_relabel_local hxb) (by simp [compEnvC, relabel, hkind]) hns₂ fun h₃ tk₃ hn₃ hk₃ => ?_
      replace hk₃ : ∀ (c : Addr) (o : Obj), c ≠ n0 + 5 → h₂.get? c = some o → h₃.get? c = some o := hk₃
      have hn₄ : h₃.Ns (n0 + 5) (fun z => if z = b then some (.int x t2) else if z = a then some (.int i t1) else m' z) := hn₃
      refine ldVarK hn₃ (v := .int x t2) (by simp) ?_ (by simp [compEnvC, relabel, hkind]) (lookup_relabel_local hxb) hdb
      have up : ∀ c o, c ≠ n0 + 3 → c ≠ n0 + 5 → h₁.get? c = some o → h₃.get? c = some o := fun c o c1 c2 e => hk₃ c o c2 (hs₂.extBut _ _ c1 e)
      have hlst₃ : h₃.get? (n0 + 4) = some (LCg.lst ys) := up _ _ (neN (by k_extra "ne")) (neN (by k_extra "ne")) (hk₁ _ _ (neN (by k_extra "ne")) (neN (by k_extra "ne")) (neN (by k_extra "ne")) (neN (by k_extra "ne")) (neN (by k_extra "ne")) hlst)
      have hyl : ys.length = i := by rw [IntsAre.length hints, hlen]
      refine append_at (hsz := by show ys.toArray.size ≤ sizeLine; rw [List.size_toArray, hyl]; exact Nat.le_trans hle (by decide)) hlst₃ fun h₄ hs₄ hD₄ => ?_
      have up4 : ∀ c o, c ≠ n0 + 3 → c ≠ n0 + 5 → c ≠ n0 + 4 → h₁.get? c = some o → h₄.get? c = some o := fun c o c1 c2 c3 e => hs₄.extBut _ _ c3 (up c o c1 c2 e)
      refine ⟨13 - (i + 1), Nat.sub_lt_sub_left (Nat.lt_succ_of_le hle) (Nat.lt_succ_self i), i + 1, zs ++ [x], ys ++ [.int x t2], h₄, tk₃, ((({ s₂ with heap := h, toks := tk, gens := gens } : Shared).setGen gn .running).setGen gn gs').gens, gs', (fun z => if z = b then some (.int x t2) else if z = a then some (.int i t1) else m' z), rfl, rfl, ?_⟩
      refine ⟨by simp [hlen], Nat.lt_of_le_of_ne hle hi, fun k hk => ?_, ?_, fun c o c1 e => ?_, ?_, ?_, ⟨_, _, up4 _ _ (neN (by k_extra "ne")) (neN (by k_extra "ne")) (neN (by k_extra "ne")) hTO₁⟩, ?_, hD₄.trans (congrArg some (lst_snoc ys _)), hn₄.sameBut hs₄ (neN (by k_extra "ne")), setGen_self (gs := .running) (setGen_self hgen), fun hab => ?_, .inr ⟨Nat.succ_pos i, I, hI, fun hi2 s'' a1 a2 a3 => ?_⟩⟩
      · by_cases hki : k < i
        · rw [List.getD_eq_getElem?_getD, List.getElem?_append_left (by rw [hlen]; exact hki), ← List.getD_eq_getElem?_getD]
          exact htold k hki
        · have hki : k = i := Nat.le_antisymm (Nat.le_of_lt_succ hk) (Nat.le_of_not_lt hki)
          subst hki
          rw [show 11 - (12 - k - 1) = k from stepK (Nat.lt_of_le_of_ne hle hi)] at hgx
          rw [hgx, List.getD_eq_getElem?_getD, ← hlen, List.getElem?_concat_length]; rfl
      · exact hints.append (.cons x t2 .nil)
      · have := ltSz e
        exact up4 c o (neN (by k_extra "ne")) (neN (by k_extra "ne")) (neN (by k_extra "ne")) (hk₁ c o (neN (by k_extra "ne")) (neN (by k_extra "ne")) (neN (by k_extra "ne")) c1 (neN (by k_extra "ne")) (hkeep c o c1 e))
      · exact hs₄.extBut _ _ (neN (by k_extra "ne")) (hk₃ _ _ (neN (by k_extra "ne")) hz₂)
      · exact up4 _ _ (neN (by k_extra "ne")) (neN (by k_extra "ne")) (neN (by k_extra "ne")) (hk₁ _ _ (neN (by k_extra "ne")) (neN (by k_extra "ne")) (neN (by k_extra "ne")) (neN (by k_extra "ne")) (neN (by k_extra "ne")) hpair)
      · have e1 : ((i + 1 : Nat) : Int) = (i : Int) + 1 := rfl
        have e2 : (12 : Int) - ((i + 1 : Nat) : Int) = 12 - (i : Int) - 1 := by rw [e1]; exact (Int.sub_sub _ _ _).symm
        rw [e2, e1]
        exact up4 _ _ (neN (by k_extra "ne")) (neN (by k_extra "ne")) (neN (by k_extra "ne")) h1₁
      · exact allBare_set (allBare_set (hbare hab) rfl) hb
      · have e3 : 12 - (i + 1) = 12 - i - 1 := Nat.sub_add_eq 12 i 1
        rw [e3]
        exact hkap (Nat.lt_sub_of_add_lt (Nat.add_comm i 1 ▸ hi2)) s'' a1 (fun o e => a2 o (up4 _ o (neN (by k_extra "ne")) (neN (by k_extra "ne")) (neN (by k_extra "ne")) e)) fun o e => a3 o (up4 _ o (neN (by k_extra "ne")) (neN (by k_extra "ne")) (neN (by k_extra "ne")) e)
    · intro h₁ e tk₁ hst hk₁ he
      obtain ⟨oe, hoe, hce⟩ := he
      refine ⟨"StopIteration", true, ⟨oe, hoe, hce⟩, isSubtype_stop, ?_⟩
      rw [if_pos rfl]
      rw [show 12 - (12 - i) = zs.length from (Nat.sub_sub_self hle).trans hlen.symm] at hst
      exact hok h₁ tk₁ _ zs ys m' ⟨by rw [hlen]; exact htold, .inr ⟨hlen.symm ▸ Nat.lt_of_le_of_ne hle hi, hst⟩⟩ hints (fun c o e => by
        have := ltSz e
        exact hk₁ c o (neN (by k_extra "ne")) (neN (by k_extra "ne")) (neN (by k_extra "ne")) (neN (by k_extra "ne")) (neN (by k_extra "ne")) (hgk c o e)) (hk₁ _ _ (neN (by k_extra "ne")) (neN (by k_extra "ne")) (neN (by k_extra "ne")) (neN (by k_extra "ne")) (neN (by k_extra "ne")) hlst)
        (hns.at' fun o e => hk₁ _ o (neN (by k_extra "ne")) (neN (by k_extra "ne")) (neN (by k_extra "ne")) (neN (by k_extra "ne")) (neN (by k_extra "ne")) e) fun hab => allBare_set (allBare_set (hbare hab) rfl) rfl
    · intro e t vs h₁ tk₁ B hbad hB hfl htup hBt hus
      refine ⟨"ValueError", false, hfl.there, sub_value_stop, ?_⟩
      rw [if_neg Bool.false_ne_true]
      rw [Nat.sub_sub_self hle] at hbad
      obtain ⟨oC, hoC, hCn⟩ := ns_obj hns
      have hfly : FlyAt B (env :: outer) e (.type "ValueError") (.ref t) .none h₁ := hfl
      refine noteFrame_any (env' := compEnvC scope cl (n0 + 5) env) hfr hf hf hfly fun h₂ R u => ?_
      refine herr e t vs h₂ tk₁ _ B oC m' ⟨i, Nat.lt_of_le_of_ne hle hi, hbad⟩ (fun hab => allBare_set (allBare_set (hbare hab) rfl) rfl) (fun c o hc e => ?_) R (htup.of_slots u) hBt (hus.trans u) ?_ hCn
      · have := ltSz e
        exact hB c o (neN (by k_extra "ne")) (neN (by k_extra "ne")) (neN (by k_extra "ne")) (neN (by k_extra "ne")) (neN (by k_extra "ne")) hc (hgk c o e)
      · exact hB _ _ (neN (by k_extra "ne")) (neN (by k_extra "ne")) (neN (by k_extra "ne")) (neN (by k_extra "ne")) (neN (by k_extra "ne")) (fun hm => absurd (hfrm _ hm) (Nat.not_lt.mpr (Nat.le_trans (Nat.le_trans (Nat.le_add_right _ 2) hn0) (Nat.le_add_right _ 5)))) hoC
theorem told_start (w : World) {A : Around} {bs : List Int} {g hb base : Heap} {env : Env} {outer : List Env} {code : Code} {gn n0 : Nat} {s₂ : Shared} {L' : Addr} {scope : Scope} {cl : List (Str × Addr)} {pos pa pb tp ep : Pos} {kk : Nat} {iter : Expr}
    {a b : Str} {RR : Result → Shared → Prop} (hh : A.handled = none) (hfr : A.frames = some (env :: outer)) (hf : env.frame = some L') (hroom : A.depth < recursionLimit)
    (hff : g.FunFrames base (env :: outer)) (hlim : g.NoLimit) (hgb : g.StaysIn hb) (hG : hb.IsGen (g.objs.size + 1) gn) (hn0 : g.objs.size + 2 ≤ n0) (hbsz : hb.objs.size ≤ n0) (GF : GFresh w bs g hb g.objs.size base code)
    (hkind : scope.kind = .function) (hxa : scope.names.lookup a = some .local) (hxb : scope.names.lookup b = some .local) (hab : ¬ a = b) (hdb : (b == ("__debug__" : Str)) = false)
    (hok : ∀ h tk gens zs ys m', ToldSome bs zs → IntsAre ys zs → g.StaysIn h → h.get? (n0 + 4) = some (LCg.lst ys) → h.Ns (n0 + 5) m' → (AllBare s₂.gens → AllBare gens) → RR (.ok .next) { s₂ with heap := h, toks := tk, gens := gens })
    (herr : ∀ e t vs h tk gens B oC m', ToldBad bs → (AllBare s₂.gens → AllBare gens) → (∀ c o, c ∉ (env :: outer).filterMap (·.frame) → g.get? c = some o → B.get? c = some o) → FlyAt B (env :: outer) e (.type "ValueError") (.ref t) (rawInt L') h → h.TupAt t vs → B.get? t = none → g.UpToSlots h →
      B.get? (n0 + 5) = some oC → NsObj oC m' → RR (.error (.ref e)) { s₂ with heap := h, toks := tk, gens := gens }) :
    ∀ ys h tk gens gst m', TAt w A.in1.in1 bs g hb (env :: outer) code gn n0 s₂.gens 0 [] ys h gens gst m' →
      codeAny (model PySem.Challenge.rw_pa0026_01.row.prog w) A (.compStart (.ListComp (.Name b ep) [⟨.Tuple [.Name a pa, .Name b pb] kk tp, iter, [], 0⟩] scope pos) 0 (.ref (n0 + 3)) (.ref (n0 + 4)) (compEnvC scope cl (n0 + 5) env)) RR { s₂ with heap := h, toks := tk, gens := gens } := by
  intro ys h tk gens gst m' H
  have l := told_loop w (pos := pos) (pa := pa) (pb := pb) (tp := tp) (ep := ep) (kk := kk) (iter := iter) (scope := scope) (cl := cl) hh hfr hf hroom hff hlim hgb hG hn0 hbsz GF hkind hxa hxb hab hdb hok herr 0 [] ys h tk gens gst m' H
  exact codeAny_compStart_list l (wpAny_pyIter_zip H.zip l)
end
section
set_option maxRecDepth 100000
open PySem PySem.W PySem.Spec PySem.Calls PyProof.Rows
section
variable {prog : Program} {w : World} {A₀ : Around} {E : Value → Shared → Prop} {s' : Shared} {base g G B : Heap} {outer : List Env} {L a e : Addr} {m : Str → Option Value} {name : Str} {scope : Scope} {cd a0 : Value}
  {b₀ : Stmt} {suite : List Stmt} {pos np : Pos} {rest : List ExceptHandler} {Q : Flow → Shared → Prop} {KF : Frag}
  {p : Program} {loose : List Str} {mean : ExcName → Option Value} {mg mb : Str → Option Value} {x : Str} {X T' : String}
/-- a clause takes an exception whose frame's entry stands -/
theorem caught_at (hfly : Heap.FlyingW B (envOf name scope L a cd :: outer) e (.type X) a0 s'.heap) (hBG : ∀ b o, G.get? b = some o → b ∉ (envOf name scope L a cd :: outer).filterMap (·.frame) → B.get? b = some o)
    (F : Fr g L G m) (K : Below A₀ base outer g) (hsm : G.UpToSlots s'.heap) (XB : KF.In base) (TB : Top p loose mean mg mb base)
    (ex : nsIn KF mainGlobals x = some none) (hv : bootBuiltins x = some (.type T')) (hn' : x ≠ "__name__")
    (hexc : isSubtype (.type T') (.type "BaseException") = pure true) (hnt : isSubtype (.type ((Manifest.find? T').elim "type" fun y => y.metatype)) (.type "tuple") = pure false) (hsub : isSubtype (.type X) (.type T') = pure true)
    (k : ∀ h' g', KtsTurn (outer.filterMap (·.frame)) g g' → Fr g' L h' m → Below A₀ base outer g' → KF.In g' → Top p loose mean mg mb g' →
      wpAny (model prog w) ((A₀.deeper (envOf name scope L a cd)).mark (some (.ref e))) (execs (b₀ :: suite) (envOf name scope L a cd)) Q E { s' with heap := h' })
    (hk : scope.kind = .function := by rfl) (hx : (envOf name scope L a cd).kindOf x = some .globalImplicit := by rfl) (hd : (x == ("__debug__" : Str)) = false := by decide)
    (hE : PassesOwnAt (model prog w) ((A₀.deeper (envOf name scope L a cd)).mark (some (.ref e))) (A₀.deeper (envOf name scope L a cd)) (envOf name scope L a cd) E := by passes_own) :
    wpAny (model prog w) (A₀.deeper (envOf name scope L a cd)) (handleBy (.ref e) (envOf name scope L a cd) (.ExceptHandler (some (.Name x np)) none (b₀ :: suite) pos :: rest)) Q E s' := by
  obtain ⟨g₅, T₅, F₅, K₅⟩ := kts_ground K F hBG hfly.1 hsm
  obtain ⟨ob, hob, hobc⟩ := hfly.there
  refine wpAny_handleBy_builtin (X := X) (T := T') (b := true) hexc hnt hsub (name_B F₅ (XB.keeps K₅.stays) (topRead_of (TB.keeps K₅.stays)) ex hv hn' ⟨rfl, ⟨ob, hob, hobc⟩, ?_⟩ hk hx hd)
  refine lands_againW hfly fun h₆ hfl₆ hsm₆ => ?_
  obtain ⟨g₆, T₆, F₆, K₆⟩ := kts_ground K F hBG hfl₆.1 (hsm.trans hsm₆)
  exact wpAny_passesOwnAt hE (k h₆ g₆ T₆ F₆ K₆ (XB.keeps K₆.stays) (TB.keeps K₆.stays))
end
end
section
open PySem PySem.W PySem.Spec PySem.Calls PyProof.Rows
theorem bare_push {gs : Array GenState} {code : Code} (h : AllBare gs) : AllBare (gs.push (.fresh code)) := by
  intro y hy
  rcases Array.mem_push.mp hy with hy | rfl
  · exact h y hy
  · rfl
set_option maxRecDepth 100000 in
set_option maxHeartbeats 800000 in
theorem told_call (w : World) (x : Array UInt8) (t : Tok) : ComesT w 4 129 [.bytes x t] [] (fun _ => True) (fun v g' h' => (∃ zs, ToldSome (KBw.bInts x) zs ∧ ListOut zs v g' h') ∨ (ToldBad (KBw.bInts x) ∧ v = .none)) := by
  k_with_none
  k_with "MINE enter" => (
      w_on
      dsimp only [Comes, ComesE]
      k_fill
      intro mean mg mb dp un gd cn cs L a ccd cl outer base g gs dr tk os Q E XB TB B X T hL hk D hd hu hpre hret hexc
      refine wpAny_call ?_
      k_dflt (first
        | (refine' enter_plain ?k3 ?k5 ?k6 ?k7 ?k8 ?k9 ?kB ?_ ?c2 ?c3 ?c4 ?c5; (case k3 => k_asm); (case k5 => k_asm); (case k6 => k_is); (case k7 => k_is); (case k8 => first | exact room0 hd | exact room1 hd rfl | exact room2 hd rfl | exact room3 hd rfl | ktr_room); (case k9 => first | exact BindsTo.of_eq rfl | exact binds_K (by k_in) rfl (by k_is) rfl rfl rfl); (case c5 => decide); (case kB => exact locs rfl); (case c2 => exact rfl); (case c3 => exact rfl); (case c4 => exact rfl); k_whole; intro L' h' eL' F' N')
        | (refine' enter_cells ?k3 ?k5 ?k6 ?k7 ?k8 ?k9 ?kB ?kD ?_ ?c2 ?c3 ?c4; (case k3 => k_asm); (case k5 => k_asm); (case k6 => k_is); (case k7 => k_is); (case k8 => first | exact room0 hd | exact room1 hd rfl | exact room2 hd rfl | exact room3 hd rfl | ktr_room); (case k9 => first | exact BindsTo.of_eq rfl | exact binds_K (by k_in) rfl (by k_is) rfl rfl rfl); (case kB => exact rfl); (case kD => decide +kernel); (case c2 => exact rfl); (case c3 => exact rfl); (case c4 => exact rfl); k_whole; intro L' h' tk' cells' eL' F' N' Y'; k_cells Y'))
      (try dsimp only)
      (try k_fold))
  k_with "MINE enterT" => (
      w_on
      dsimp only [ComesT]
      k_fill
      intro mean mg mb dp un gd cn cs L a ccd cl outer base g gs dr tk os Q E XB TB B X T hL hk D hd hu hpre hret
      refine wpAny_call ?_
      k_dflt (first
        | (refine' enter_plain ?k3 ?k5 ?k6 ?k7 ?k8 ?k9 ?kB ?_ ?c2 ?c3 ?c4 ?c5; (case k3 => k_asm); (case k5 => k_asm); (case k6 => k_is); (case k7 => k_is); (case k8 => first | exact room0 hd | exact room1 hd rfl | exact room2 hd rfl | exact room3 hd rfl | ktr_room); (case k9 => first | exact BindsTo.of_eq rfl | exact binds_K (by k_in) rfl (by k_is) rfl rfl rfl); (case c5 => decide); (case kB => exact locs rfl); (case c2 => exact rfl); (case c3 => exact rfl); (case c4 => exact rfl); k_whole; intro L' h' eL' F' N')
        | (refine' enter_cells ?k3 ?k5 ?k6 ?k7 ?k8 ?k9 ?kB ?kD ?_ ?c2 ?c3 ?c4; (case k3 => k_asm); (case k5 => k_asm); (case k6 => k_is); (case k7 => k_is); (case k8 => first | exact room0 hd | exact room1 hd rfl | exact room2 hd rfl | exact room3 hd rfl | ktr_room); (case k9 => first | exact BindsTo.of_eq rfl | exact binds_K (by k_in) rfl (by k_is) rfl rfl rfl); (case kB => exact rfl); (case kD => decide +kernel); (case c2 => exact rfl); (case c3 => exact rfl); (case c4 => exact rfl); k_whole; intro L' h' tk' cells' eL' F' N' Y'; k_cells Y'))
      (try dsimp only)
      (try k_fold))
  k_with "call type:type" => ((with_reducible show wpAny _ _ (call _ [Value.bytes _ _]) _ _ _); refine call_type_of (Tx := "bytes") rfl (by decide +kernel) ?_)
  walk_at "MINE enterT"
  iterate 5 (first | (k_unfold; (try dsimp only)) | walk1 | (dsimp only; walk1))
  rw [eval_ListComp]
  refine wpAny_comprehension_free (use := none) (cl := []) rfl (fun _ => rfl) rfl rfl (by decide) ?_
  show wpAny _ _ (eval _ _) _ _ _
  k_fold
  k_steps
  rename Fr _ _ _ _ => F0
  rename News _ _ _ _ => N0
  rename IsRange _ _ _ _ _ _ _ _ => hr0
  refine wpAny_call ?_
  refine gen_call w x t _ _ _ _ _ _ _ mean mg mb base ?hroom (X.keeps F0.keep) (T.keeps F0.keep) ?hR
  case hroom => ktr_room
  case hR =>
    intro h₁ tk₁ code hst₁ hsz₁ hG GF
    have F1 := F0.keeps hst₁
    have N1 : News g L' h₁ [] := News.nil
    show wpAny _ _ (spliced _) _ _ _
    (try k_fold)
    k_steps
    refine call_zip_rg (hst₁ _ _ hr0) hG fun h₂ hz hTI hTO hI1 hsz₂ hk₂ => ?_
    show wpAny _ _ (pyIter _) _ _ _
    refine wpAny_pyIter_zip hz ?_
    refine wpAny_newObj_type (wpAny_newFunctionEnv (by decide) (by intro y hy; simp at hy) (fun h₃ hns₃ hsb₃ => ?_) rfl)
    dsimp only at hns₃ hsb₃ ⊢
    have hC : (h₂.push { cls := .type "list", dict := none, data := .seq ([] : List Value).toArray }).objs.size = h₁.objs.size + 5 := by rw [Heap.size_push, hsz₂]
    have hDn : (h₂.push { cls := .type "list", dict := none, data := .seq ([] : List Value).toArray }).get? h₂.objs.size = some _ := Heap.get?_push_size _ rfl
    have hkp : ∀ c o, h₂.get? c = some o → (h₂.push { cls := .type "list", dict := none, data := .seq ([] : List Value).toArray }).get? c = some o := fun c o e => Heap.get?_push_of_some _ e
    generalize (h₂.push { cls := .type "list", dict := none, data := .seq ([] : List Value).toArray }).objs.size = C at hC hns₃ hsb₃ ⊢
    have hlt2 : ∀ c o, h₂.get? c = some o → @LT.lt Nat instLTNat c (h₁.objs.size + 4) := fun c o e => hsz₂ ▸ ltSz e
    generalize h₂.objs.size = DD at hsz₂ hDn ⊢
    subst hC hsz₂
    have up₃ : ∀ c o, h₂.get? c = some o → h₃.get? c = some o := fun c o e => by
      have := hlt2 c o e
      exact hsb₃.extBut _ _ (neN (by omega)) (Heap.get?_push_of_some _ (hkp c o e))
    refine told_start w (bs := KBw.bInts x) (hb := h₁) (base := base) (n0 := h₁.objs.size) (a := "step") (b := "size") (s₂ := ⟨h₃, gs.push (.fresh code), dr, 0, os⟩) rfl (Around.frames_deeper B.stack) rfl ?hroom (Below.push B F0 rfl).frames (T.keeps F0.keep).nolimit hst₁ hG (Nat.le_of_eq hsz₁.symm) (Nat.le_refl _) GF rfl rfl rfl (by decide) (by decide) ?hok ?herr [] h₃ _ _ (.fresh code) (fun x => ([] : List (Str × Value)).reverse.lookup x) ?T0
    case hroom => ktr_room
    case T0 =>
      exact ⟨rfl, by decide, fun k hk => absurd hk (Nat.not_lt_zero _), .nil, fun c o _ e => up₃ c o (hk₂ c o e), up₃ _ _ hz, up₃ _ _ hTI, ⟨_, _, up₃ _ _ hTO⟩, up₃ _ _ hI1, hsb₃.extBut _ _ (neN (by omega)) (Heap.get?_push_of_some _ hDn), hns₃, Array.getElem?_push_size .., fun hb => hb, .inl ⟨rfl, rfl, fun c o e => up₃ c o (hk₂ c o e)⟩⟩
    case hok =>
      intro h tkz gens zs ys m' htold hints hst hD hns hbare
      refine ⟨m', hns, fun h5 hs5 => ?_⟩
      have hs6 : Heap.SameBut (h₁.objs.size + 5) h h5 := hs5
      show Q (.ref _) _
      refine hret _ g h5 _ _ KtsTurn.refl (fun c o e => ?_) (fun hab => hbare (bare_push hab)) (.inl ⟨zs, htold, _, ys, ys.length, rfl, hs6.extBut (h₁.objs.size + 4) _ (neN (by omega)) hD, ?_, hints⟩)
      · have := ltSz (hst₁ _ _ (F0.keep c o e))
        exact hs6.extBut _ _ (neN (by omega)) (hst c o (F0.keep c o e))
      · cases q : g.get? (h₁.objs.size + 4) with
        | none => rfl
        | some o => have := ltSz (hst₁ _ _ (F0.keep _ o q)); omega
    case herr =>
      intro e t vs h tkz gens B5 oC m' hbad hbare hB hfl htup hBt hus hoC hCn
      refine ⟨m', hCn.ns (hfl.1 _ _ hoC), fun h5 hs5 cenv _ => ?_⟩
      have hs6 : Heap.SameBut (h₁.objs.size + 5) h h5 := hs5
      have hfl5 := hfl.but hoC hs6
      refine passOn_any hfl5 fun h6 fl6 hfl6 u6 => ?_
      show wpAny _ _ (noteFrame _ _) _ _ _
      refine noteFrame_any (Around.frames_deeper B.stack) rfl rfl hfl6 fun h7 hfl7 u7 => ?_
      refine setFlight_any (f := none) hfl7 fun h8 hfl8 u8 => ?_
      have u5 : Heap.UpToSlots _ h5 := fun c o e hn => by
        obtain ⟨sl, hs⟩ := hus c o e hn
        have := ltSz (hst₁ _ _ e)
        exact ⟨sl, hs6.extBut _ _ (neN (by omega)) hs⟩
      refine caught_at (X := "ValueError") (T' := "ValueError") hfl8 ?hBG F0 B (((u5.trans u6).trans u7).trans u8) XB TB (by k_is) PyProof.Rows.Boot.«ValueError» (by decide) PySem.F.isExc_ValueError PySem.F.notTuple_ValueError (by kts_sub) ?k
      case hBG =>
        intro c o e hn
        have := ltSz (hst₁ _ _ e)
        rw [Heap.hide_ne _ (neN (by omega))]
        exact hB c o hn e
      case k =>
        intro h9 g9 T9 F9 K9 X9 P9
        clear F0 F1 N0 N1
        k_steps
        all_goals (refine' hret _ _ _ _ _ ?kmt (Fr.keep ?kmf) (fun hab => hbare (bare_push hab)) (.inr ⟨hbad, rfl⟩); (case kmf => k_asm); (case kmt => assumption))
end
section
set_option maxRecDepth 100000
open PySem PySem.W PySem.Spec PySem.Calls PyProof.Rows PyProof.Rows.LCg
/-- the places, of the first i, whose int passes -/
def picksTo (pz : Int → Bool) (ns : List Int) (i : Nat) : List Int := ((List.range i).filter fun k => pz (ns.getD k 0)).map Int.ofNat
theorem picksTo_succ (pz : Int → Bool) (ns : List Int) (i : Nat) : picksTo pz ns (i + 1) = picksTo pz ns i ++ (if pz (ns.getD i 0) = true then [(i : Int)] else []) := by
  unfold picksTo
  rw [List.range_succ, List.filter_append, List.map_append]
  congr 1
  by_cases h : pz (ns.getD i 0) = true
  · rw [if_pos h, List.filter_cons_of_pos (p := fun k => pz (ns.getD k 0)) h]; rfl
  · rw [if_neg h, List.filter_cons_of_neg (p := fun k => pz (ns.getD k 0)) h]; rfl
section
variable {prog : Program} {w : World} {A : Around} {E : Value → Shared → Prop} {s : Shared} {h₀ : Heap} {L : Addr} {m : Str → Option Value} {env : Env}
theorem enum_comp {a b y : Str} {pa pb py tp ep spos pos : Pos} {kk : Nat} {iter c : Expr} {scope : Scope} {cl : List (Str × Addr)} {news : List (Addr × Obj)} {Q : Flow → Shared → Prop} (pz : Int → Bool)
    (_F₀ : Fr h₀ env.locals s.heap m) (_N₀ : News h₀ env.locals s.heap news) (hh : A.handled = none)
    (hsw : swapsWith (.ListComp (.Name a ep) [⟨.Tuple [.Name a pa, .Name b pb] kk tp, iter, [c], 0⟩] scope pos) (some (.Name y py)) spos.line env = pure true)
    (hclos : closureFor scope env = pure cl) (hcell : ∀ z ∈ scope.names, z.2 ≠ .cell) (hkind : scope.kind = .function)
    (hnames : ∀ z ∈ scope.names, z.2 = .local → scope.names.lookup z.1 = some .local) (hxa : scope.names.lookup a = some .local) (hxb : scope.names.lookup b = some .local) (hab : ¬ a = b) (hda : (a == ("__debug__" : Str)) = false)
    (hy : env.kindOf y = some .local) (hp : (env.scope.kind == .class || (env.scope.kind == .module && env.locals != env.globals)) = false)
    (h : wpAny (model prog w) A (eval iter env) (fun xv s₁ => ∃ (e it l : Addr) (vs : List Value) (ns : List Int), xv = .ref e ∧ IsEnum s₁.heap e it 0 .none ∧ s₁.heap.IsListIter it l 0 ∧ s₁.heap.IsList l vs.toArray ∧ IntsAre vs ns ∧ vs.length ≤ 64 ∧
      e ≠ it ∧ l ≠ e ∧ l ≠ it ∧ Fr h₀ env.locals s₁.heap m ∧ News h₀ env.locals s₁.heap news ∧ h₀.get? e = none ∧ h₀.get? it = none ∧ env.locals ≠ e ∧ env.locals ≠ it ∧ l ≠ env.locals ∧ (∀ p ∈ news, p.1 ≠ e ∧ p.1 ≠ it) ∧
      (∀ C oC m₂ h tk E' n t i ti (rest : List (Addr × Obj)), Fr h₀ env.locals h m → News h₀ env.locals h ((C, oC) :: (news ++ rest)) → NsObj oC m₂ → m₂ a = some (.int i ti) → m₂ b = some (.int n t) → n ∈ ns →
        wpAny (model prog w) A (isTrue c (compEnvC scope cl C env) (eval c (compEnvC scope cl C env))) (fun ok s₃ => ok = pz n ∧ ∃ h' tk', s₃ = { s₁ with heap := h', toks := tk' } ∧ Fr h₀ env.locals h' m ∧ News h₀ env.locals h' rest) E' { s₁ with heap := h, toks := tk }) ∧
      (∀ D h tk ys, Fr h₀ env.locals h (fun z => if z = y then some (.ref D) else m z) → News h₀ env.locals h ((D, lst ys) :: news) → IntsAre ys (picksTo pz ns ns.length) → Q .next { s₁ with heap := h, toks := tk })) E s)
    (hs : ∀ x, foldedSetIterable iter env x = pure x := by intro _; rfl) :
    wpAny (model prog w) A (exec (.Assign [.Name y py] (.ListComp (.Name a ep) [⟨.Tuple [.Name a pa, .Name b pb] kk tp, iter, [c], 0⟩] scope pos) spos) env) Q E s := by
  k_with_none
  k_with "lt" => first | assumption | exact Nat.lt_succ_of_lt (by assumption) | exact Nat.lt_succ_self _ | exact Nat.lt_succ_of_lt (Nat.lt_succ_of_lt (by assumption)) | exact Nat.lt_succ_of_lt (Nat.lt_succ_self _)
  k_with "ne" => first | assumption | exact Nat.ne_of_lt (by k_extra "lt") | exact Nat.ne_of_gt (by k_extra "lt") | (walk_say "NE FELL"; omega)
  rw [exec_Assign_Name_used _ _ _ _ hsw]
  refine wpAny_bind (wpAny_standAt (wpAny_bind ?_))
  show wpAny _ A (do let _ ← comprehension (.ListComp (.Name a ep) [⟨.Tuple [.Name a pa, .Name b pb] kk tp, iter, [c], 0⟩] scope pos) scope env _ (newList []) false (eval iter env) (some (assign (.Name y py) env))) _ _ s
  refine wpAny_bind (wpAny_mono (wpAny_comprehension_free (use := some (assign (.Name y py) env)) (Q := fun _ s' => Q .next s') rfl hs hclos hkind hnames
    (wpAny_mono h (fun xv s₁ h₁ => ?_) fun _ _ e => e)) (fun _ s' hq => wpAny_pure (wpAny_pure hq)) fun _ _ e => e)
  obtain ⟨e, it, l, vs, ns, rfl, hE, hI, hl, hints, hlen, hei, hle, hli, F, N, he0, hi0, hLe, hLi, hlL, hoff, htest, hfin⟩ := h₁
  have W := WalksT.enumerate (prog := prog) (w := w) hh e it l hei hle hli vs.toArray
  refine W.self 0 s₁ _ _ ⟨⟨_, hE⟩, hI, hl⟩ ?_
  refine wpAny_newObj_type (wpAny_newFunctionEnv hcell (by intro y hy; simp at hy) (fun h₃ hns₃ hsb₃ => ?_) hkind)
  dsimp only at hns₃ hsb₃ ⊢
  have hC : (s₁.heap.push { cls := .type "list", dict := none, data := .seq ([] : List Value).toArray }).objs.size = s₁.heap.objs.size + 1 := Heap.size_push ..
  have hDn : (s₁.heap.push { cls := .type "list", dict := none, data := .seq ([] : List Value).toArray }).get? s₁.heap.objs.size = some _ := Heap.get?_push_size _ rfl
  have hkp : ∀ c o, s₁.heap.get? c = some o → (s₁.heap.push { cls := .type "list", dict := none, data := .seq ([] : List Value).toArray }).get? c = some o := fun c o e => Heap.get?_push_of_some _ e
  generalize (s₁.heap.push { cls := .type "list", dict := none, data := .seq ([] : List Value).toArray }) = H2 at hC hns₃ hsb₃ hDn hkp ⊢
  generalize H2.objs.size = C at hC hns₃ hsb₃ ⊢
  have hlt : ∀ c o, s₁.heap.get? c = some o → @LT.lt Nat instLTNat c s₁.heap.objs.size := fun c o e => ltSz e
  generalize hD : s₁.heap.objs.size = D at hC hDn hlt ⊢
  subst hC
  have up₃ : ∀ c o, s₁.heap.get? c = some o → h₃.get? c = some o := fun c o e => by
    have := hlt c o e
    exact hsb₃.extBut _ _ (neN (by k_extra "ne")) (Heap.get?_push_of_some _ (hkp c o e))
  have hlive : ∀ c o, h₀.get? c = some o → @LT.lt Nat instLTNat c D := fun c o e => hlt c o (F.keep c o e)
  have hD0 : h₀.get? D = none := by
    cases q : h₀.get? D with
    | none => rfl
    | some o => exact absurd (hlive _ _ q) (Nat.not_lt.mpr (by first | exact Nat.le_refl _ | exact Nat.le_add_right _ _ | exact Nat.le_trans (Nat.le_add_right _ _) (Nat.le_add_right _ _)))
  have hC0 : h₀.get? (D + 1) = none := by
    cases q : h₀.get? (D + 1) with
    | none => rfl
    | some o => exact absurd (hlive _ _ q) (Nat.not_lt.mpr (by first | exact Nat.le_refl _ | exact Nat.le_add_right _ _ | exact Nat.le_trans (Nat.le_add_right _ _) (Nat.le_add_right _ _)))
  have hLD : @LT.lt Nat instLTNat env.locals D := hD ▸ F.ns.lt
  have hnD : ∀ p ∈ news, @LT.lt Nat instLTNat p.1 D := fun p hp => hlt _ _ (N p hp).1
  have heD : @LT.lt Nat instLTNat e D := hlt _ _ hE
  have hiD : @LT.lt Nat instLTNat it D := by obtain ⟨o, ho, _⟩ := hI; exact hlt _ _ ho
  have hvl : ns.length = vs.length := (IntsAre.length hints).symm
  have loop : codeAny (model prog w) A (.compLoop (.ListComp (.Name a ep) [⟨.Tuple [.Name a pa, .Name b pb] kk tp, iter, [c], 0⟩] scope pos) 0 (.ref e) (.ref D) (compEnvC scope cl (D + 1) env))
      (compPost (model prog w) A E (some (assign (.Name y py) env)) (fun _ s' => Q .next s') (.ref D) (D + 1)) { s₁ with heap := h₃, toks := s₁.toks + ([] : List (Str × Value)).length } := by
    refine kct_loop (fun k s => ∃ i h tk ys m', i ≤ vs.length ∧ k = vs.length + 1 - i ∧ s = { s₁ with heap := h, toks := tk } ∧ ((∃ old, IsEnum h e it i old) ∧ h.IsListIter it l i ∧ h.IsList l vs.toArray) ∧ h.Ns (D + 1) m' ∧ h.get? D = some (lst ys) ∧ IntsAre ys (picksTo pz ns i) ∧ ys.length ≤ i ∧ h.Ns env.locals m ∧
      (∀ (c : Addr) (o : Obj), c ≠ e → c ≠ it → c ≠ env.locals → s₁.heap.get? c = some o → h.get? c = some o)) ?_ (vs.length + 1) ⟨0, h₃, _, [], _, Nat.zero_le _, rfl, rfl, W.frame 0 _ _ ⟨⟨_, hE⟩, hI, hl⟩ (fun b _ o e => up₃ b o e), hns₃, hsb₃.extBut _ _ (neN (by k_extra "ne")) (Heap.get?_push_of_some _ hDn), .nil, Nat.le_refl _, F.ns.at' fun o e => up₃ _ o e, fun c o _ _ _ e => up₃ c o e⟩
    rintro k s ⟨i, h, tk, ys, m', hi, rfl, rfl, hst, hns, hlst, hys, hyl, hnL, hkeep⟩
    by_cases hlt2 : i < vs.length
    · refine W.item i _ _ _ (by simpa using hlt2) hst fun T vals h₁ tk₁ hP hTs hT hM hk₁ => ?_
      refine W.go _ _ _ i T _ _ _ hM fun h₂ hst₂ hk₂ => ?_
      obtain ⟨ti, x, hx, rfl⟩ := hP
      obtain ⟨n, tn, rfl, hn⟩ := IntsAre.at hints i x (by simpa using hx)
      have hmem : n ∈ ns := List.mem_of_getElem? hn
      have hgd : ns.getD i 0 = n := by rw [List.getD_eq_getElem?_getD, hn]; rfl
      have hT₂ : h₂.IsTuple T #[.int i ti, .int n tn] := by
        obtain ⟨o, ho, r⟩ := hT
        exact ⟨o, hk₂ T o (W.apart _ T _ hM) ho, r⟩
      have k₂ : ∀ (c : Addr) (o : Obj), c ≠ e → c ≠ it → h.get? c = some o → h₂.get? c = some o := fun c o c1 c2 e => hk₂ c o (by simp [c1, c2]) (hk₁ c o (by simp [c1, c2]) e)
      have hns₂ : h₂.Ns (D + 1) m' := hns.at' fun o e => k₂ _ o (neN (by k_extra "ne")) (neN (by k_extra "ne")) e
      refine kcp_assign (env := compEnvC scope cl (D + 1) env) hh hT₂ (lookup_relabel_local hxa) (lookup_relabel_local hxb) (by simp [compEnvC, relabel, hkind]) hns₂ fun h₄ tk₄ hn₄ hk₄ => ?_
      replace hk₄ : ∀ (c : Addr) (o : Obj), c ≠ D + 1 → h₂.get? c = some o → h₄.get? c = some o := hk₄
      have hn5 : h₄.Ns (D + 1) (fun z => if z = b then some (.int n tn) else if z = a then some (.int i ti) else m' z) := hn₄
      obtain ⟨oC, hoC, hCn⟩ := ns_obj hn5
      have k₄ : ∀ (c : Addr) (o : Obj), c ≠ e → c ≠ it → c ≠ D + 1 → h.get? c = some o → h₄.get? c = some o := fun c o c1 c2 c3 e => hk₄ c o c3 (k₂ c o c1 c2 e)
      have kk₄ : ∀ (c : Addr) (o : Obj), c ≠ e → c ≠ it → c ≠ env.locals → s₁.heap.get? c = some o → h₄.get? c = some o := fun c o c1 c2 c3 e => by
        have := hlt c o e
        exact k₄ c o c1 c2 (neN (by k_extra "ne")) (hkeep c o c1 c2 c3 e)
      have hnotL : ∀ c o, h₀.get? c = some o → c ≠ env.locals := fun c o e => Nat.ne_of_lt (Nat.lt_of_lt_of_le (Heap.lt_size e) F.above)
      have F4 : Fr h₀ env.locals h₄ m := ⟨hnL.at' fun o e => k₄ _ o hLe hLi (neN (by k_extra "ne")) e, fun c o e => kk₄ c o (fun q => by rw [q, he0] at e; cases e) (fun q => by rw [q, hi0] at e; cases e) (hnotL c o e) (F.keep c o e), F.above⟩
      have N4 : News h₀ env.locals h₄ ((D + 1, oC) :: (news ++ others h₄ h₀ [env.locals])) := fun p hp => by
        rcases List.mem_cons.mp hp with rfl | hp
        · exact ⟨hoC, neN (by k_extra "ne"), hC0⟩
        · rcases List.mem_append.mp hp with hp | hp
          · exact ⟨kk₄ _ _ (hoff p hp).1 (hoff p hp).2 (N p hp).2.1 (N p hp).1, (N p hp).2⟩
          · exact others_news (List.mem_singleton.mpr rfl) p hp
      have hst₄ : (∃ old, IsEnum h₄ e it ((i + 1 : Nat) : Int) old) ∧ h₄.IsListIter it l (i + 1) ∧ h₄.IsList l vs.toArray := by
        refine W.frame (i + 1) _ _ hst₂ fun c hc o e1 => hk₄ c o ?_ e1
        have hlD : @LT.lt Nat instLTNat l D := by obtain ⟨o, ho, _⟩ := hl; exact hlt _ _ ho
        have hc' : @Eq Nat c e ∨ @Eq Nat c it ∨ @Eq Nat c l := by simpa using hc
        rcases hc' with rfl | rfl | rfl <;> exact neN (by k_extra "ne")
      have hlst₄' : h₄.get? D = some (lst ys) := k₄ _ _ (neN (by k_extra "ne")) (neN (by k_extra "ne")) (neN (by k_extra "ne")) hlst
      refine wpAny_mono (htest (D + 1) oC _ h₄ tk₄ _ n tn i ti _ F4 N4 hCn (by simp [hab]) (by simp) hmem) (fun ok s₃ hs₃ => ?_) fun _ _ e => e
      obtain ⟨rfl, h₆, tk', rfl, F6, N6⟩ := hs₃
      have k₆ : ∀ (c : Addr) (o : Obj), c ≠ env.locals → h₄.get? c = some o → h₆.get? c = some o := fun c o c1 e => others_keep F4.keep F6 N6 c o (fun q => c1 (List.mem_singleton.mp q)) e
      replace hn5 : h₆.Ns (D + 1) (fun z => if z = b then some (.int n tn) else if z = a then some (.int i ti) else m' z) := hn5.at' fun o e => k₆ _ o (neN (by k_extra "ne")) e
      have hlst₄ : h₆.get? D = some (lst ys) := k₆ _ _ (neN (by k_extra "ne")) hlst₄'
      replace kk₄ : ∀ (c : Addr) (o : Obj), c ≠ e → c ≠ it → c ≠ env.locals → s₁.heap.get? c = some o → h₆.get? c = some o := fun c o c1 c2 c3 e => k₆ c o c3 (kk₄ c o c1 c2 c3 e)
      have hst₆ : (∃ old, IsEnum h₆ e it ((i + 1 : Nat) : Int) old) ∧ h₆.IsListIter it l (i + 1) ∧ h₆.IsList l vs.toArray := by
        refine W.frame (i + 1) _ _ hst₄ fun c hc o e1 => k₆ c o ?_ e1
        have hc' : @Eq Nat c e ∨ @Eq Nat c it ∨ @Eq Nat c l := by simpa using hc
        rcases hc' with rfl | rfl | rfl
        · exact Ne.symm hLe
        · exact Ne.symm hLi
        · exact hlL
      have hps := picksTo_succ pz ns i
      rw [hgd] at hps
      by_cases hpn : pz n = true
      · rw [if_pos hpn] at hps
        simp only [hpn, if_true]
        refine ldVarK hn5 (v := .int i ti) (by simp [hab]) ?_ (by simp [compEnvC, relabel, hkind]) (lookup_relabel_local hxa) hda
        refine append_at (hsz := by show ys.toArray.size ≤ sizeLine; rw [List.size_toArray]; exact Nat.le_trans (Nat.le_trans hyl (Nat.le_trans hi hlen)) (by decide)) hlst₄ fun h₅ hs₅ hD₅ => ?_
        refine ⟨vs.length + 1 - (i + 1), Nat.sub_lt_sub_left (Nat.lt_succ_of_lt hlt2) (Nat.lt_succ_self i), i + 1, h₅, tk', ys ++ [.int i ti], (fun z => if z = b then some (.int n tn) else if z = a then some (.int i ti) else m' z), hlt2, rfl, rfl, ?_, hn5.sameBut hs₅ (neN (by k_extra "ne")), hD₅.trans (congrArg some (lst_snoc ys _)), ?_, by rw [List.length_append]; exact Nat.succ_le_succ hyl, F6.ns.sameBut hs₅ (neN (by k_extra "ne")), fun c o c1 c2 c3 e => ?_⟩
        · refine W.frame (i + 1) _ _ hst₆ fun c hc o e1 => hs₅.extBut c o ?_ e1
          have hlD : @LT.lt Nat instLTNat l D := by obtain ⟨o, ho, _⟩ := hl; exact hlt _ _ ho
          have hc' : @Eq Nat c e ∨ @Eq Nat c it ∨ @Eq Nat c l := by simpa using hc
          rcases hc' with rfl | rfl | rfl <;> exact neN (by k_extra "ne")
        · rw [hps]; exact hys.append (.cons _ _ .nil)
        · have := hlt c o e
          exact hs₅.extBut _ _ (neN (by k_extra "ne")) (kk₄ c o c1 c2 c3 e)
      · rw [if_neg hpn, List.append_nil] at hps
        rw [if_neg hpn]
        refine ⟨vs.length + 1 - (i + 1), Nat.sub_lt_sub_left (Nat.lt_succ_of_lt hlt2) (Nat.lt_succ_self i), i + 1, h₆, tk', ys, (fun z => if z = b then some (.int n tn) else if z = a then some (.int i ti) else m' z), hlt2, rfl, rfl, hst₆, hn5, hlst₄, by rw [hps]; exact hys, Nat.le_succ_of_le hyl, F6.ns, kk₄⟩
    · have hin : i = vs.length := Nat.le_antisymm hi (Nat.le_of_not_lt hlt2)
      subst hin
      refine W.done _ _ _ (by simpa using hst) fun h₁ tk₁ hk₁ => ?_
      have k₁ : ∀ (c : Addr) (o : Obj), c ≠ e → c ≠ it → h.get? c = some o → h₁.get? c = some o := fun c o c1 c2 e => hk₁ c o (by simp [c1, c2]) e
      show wpAny _ A (assign (.Name y py) env (.ref D)) _ _ _
      have hnL : h₁.Ns env.locals m := hnL.at' fun o e => k₁ _ o hLe hLi e
      refine wpAny_assign_Name (wpAny_storeName_local hy hnL (fun h₂ hn₂ hs₂ => ?_) hp)
      refine ⟨m', (hns.at' fun o e => k₁ _ o (neN (by k_extra "ne")) (neN (by k_extra "ne")) e).sameBut hs₂ (neN (by k_extra "ne")), fun h₃' hs₃ => ?_⟩
      have up : ∀ (c : Addr) (o : Obj), c ≠ e → c ≠ it → c ≠ env.locals → c ≠ D + 1 → h.get? c = some o → h₃'.get? c = some o := fun c o c1 c2 c3 c4 e => hs₃.extBut c o c4 (hs₂.extBut c o c3 (k₁ c o c1 c2 e))
      refine hfin D h₃' _ ys ⟨hn₂.sameBut hs₃ (neN (by k_extra "ne")), fun c o e => ?_, F.above⟩ (fun p hp => ?_) (by rw [hvl]; exact hys)
      · have h1 := hlive c o e
        have h2 : c ≠ env.locals := Nat.ne_of_lt (Nat.lt_of_lt_of_le (Heap.lt_size e) F.above)
        exact up c o (fun q => by rw [q, he0] at e; cases e) (fun q => by rw [q, hi0] at e; cases e) h2 (neN (by k_extra "ne")) (hkeep c o (fun q => by rw [q, he0] at e; cases e) (fun q => by rw [q, hi0] at e; cases e) h2 (F.keep c o e))
      · rcases List.mem_cons.mp hp with rfl | hp
        · exact ⟨up _ _ (neN (by k_extra "ne")) (neN (by k_extra "ne")) (neN (by k_extra "ne")) (neN (by k_extra "ne")) hlst, neN (by k_extra "ne"), hD0⟩
        · have := hnD p hp
          exact ⟨up _ _ (hoff p hp).1 (hoff p hp).2 (N p hp).2.1 (neN (by k_extra "ne")) (hkeep _ _ (hoff p hp).1 (hoff p hp).2 (N p hp).2.1 (N p hp).1), (N p hp).2⟩
  exact codeAny_compStart_list loop (W.self 0 _ _ _ (W.frame 0 _ _ ⟨⟨_, hE⟩, hI, hl⟩ (fun b _ o e => up₃ b o e)) loop)
end
end
section
open PySem PySem.W PySem.Calls PyProof.Rows
theorem picksTo_mem {pz : Int → Bool} {ns : List Int} {i : Nat} {q : Int} (h : q ∈ picksTo pz ns i) : 0 ≤ q ∧ q < (i : Int) ∧ pz (ns.getD q.toNat 0) = true := by
  obtain ⟨k, hk, rfl⟩ := List.mem_map.mp h
  obtain ⟨h1, h2⟩ := List.mem_filter.mp hk
  have := List.mem_range.mp h1
  exact ⟨Int.natCast_nonneg k, by simpa using this, by simpa using h2⟩
theorem picksTo_len (pz : Int → Bool) (ns : List Int) (i : Nat) : (picksTo pz ns i).length ≤ i := by
  unfold picksTo
  rw [List.length_map]
  exact Nat.le_trans (List.length_filter_le _ _) (by simp)
/-- the signs 0 and 127 end a walk -/
def stopPz (fc : Array UInt8) (n : Int) : Bool := [0, 127].any fun x => x == bget fc n
/-- what _law_due gives back of the list at l -/
def DueOut (fc : Array UInt8) (ns : List Int) (l : Addr) (v : Value) (g h' : Heap) : Prop :=
  match picksTo (stopPz fc) ns ns.length with
  | [] => v = .ref l
  | q :: _ => if bget fc (ns.getD q.toNat 0) = 127 then ListOut (ns.take q.toNat) v g h'
      else if 0 < (ns.take q.toNat).length then ListOut (List.take 12 (List.take q.toNat ns ++ (List.replicate 12 (List.drop ((List.take q.toNat ns).length - 1) (List.take q.toNat ns))).flatten)) v g h' else v = .none
end
section
open PySem PySem.W PySem.Spec PySem.Calls PyProof.Rows
theorem truthy_cons {prog : Program} {w : World} {A : Around} {E : Value → Shared → Prop} {s : Shared} {h₀ : Heap} {L D : Addr} {news : List (Addr × Obj)} {v : Value} {ys : List Value} {Q : Bool → Shared → Prop} (N : News h₀ L s.heap news) (hm : (D, LCg.lst (v :: ys)) ∈ news) (hl : ys.length ≤ 64)
    (h : Q true { s with toks := s.toks + 2 }) : wpAny (model prog w) A (truthy (.ref D)) Q E s := by
  refine wpAny_truthy_list (items := (v :: ys).toArray) ⟨_, (N _ hm).1, rfl, _, rfl⟩ (by simp; omega) ?_
  simpa using h
theorem item0_lst {prog : Program} {w : World} {A : Around} {E : Value → Shared → Prop} {s : Shared} {h₀ : Heap} {L D : Addr} {news : List (Addr × Obj)} {v : Value} {ys : List Value} {Q : Value → Shared → Prop} {value slice : PySem.Expr} {u : Tok} (N : News h₀ L s.heap news) (hm : (D, LCg.lst (v :: ys)) ∈ news)
    (h : Q v s) (hs : subscripted slice false (.ref D) (.int 0 u) = operate [.ref D, .int 0 u] (getItem (.ref D) (.int 0 u))) : wpAny (model prog w) A (subscriptTail value slice (.ref D) (.int 0 u)) Q E s :=
  item_litK (vs := v :: ys) ⟨_, (N _ hm).1, rfl, _, rfl⟩ (by decide) (by decide) rfl h hs
set_option maxRecDepth 100000 in
set_option maxHeartbeats 800000 in
theorem due_call (w : World) (l : Addr) (vs : List Value) (ns : List Int) (fc : Array UInt8) (t : Tok) (hi : IntsAre vs ns) (hn : ∀ n ∈ ns, 0 ≤ n ∧ n < 65) (hl : ns.length ≤ 12) (hfc : fc.size = 65) : Comes w 1 124 [.ref l, .bytes fc t] [] (fun g => g.IsList l vs.toArray) (fun v g h' => DueOut fc ns l v g h') := by
  k_with_none
  k_with "MINE enter" => (
      w_on
      dsimp only [Comes, ComesE]
      k_fill
      intro mean mg mb dp un gd cn cs L a ccd cl outer base g gs dr tk os Q E XB TB B X T hL hk D hd hu hpre hret hexc
      refine wpAny_call ?_
      k_dflt (first
        | (refine' enter_plain ?k3 ?k5 ?k6 ?k7 ?k8 ?k9 ?kB ?_ ?c2 ?c3 ?c4 ?c5; (case k3 => k_asm); (case k5 => k_asm); (case k6 => k_is); (case k7 => k_is); (case k8 => first | exact room0 hd | exact room1 hd rfl | exact room2 hd rfl | exact room3 hd rfl | ktr_room); (case k9 => first | exact BindsTo.of_eq rfl | exact binds_K (by k_in) rfl (by k_is) rfl rfl rfl); (case c5 => decide); (case kB => exact locs rfl); (case c2 => exact rfl); (case c3 => exact rfl); (case c4 => exact rfl); k_whole; intro L' h' eL' F' N')
        | (refine' enter_cells ?k3 ?k5 ?k6 ?k7 ?k8 ?k9 ?kB ?kD ?_ ?c2 ?c3 ?c4; (case k3 => k_asm); (case k5 => k_asm); (case k6 => k_is); (case k7 => k_is); (case k8 => first | exact room0 hd | exact room1 hd rfl | exact room2 hd rfl | exact room3 hd rfl | ktr_room); (case k9 => first | exact BindsTo.of_eq rfl | exact binds_K (by k_in) rfl (by k_is) rfl rfl rfl); (case kB => exact rfl); (case kD => decide +kernel); (case c2 => exact rfl); (case c3 => exact rfl); (case c4 => exact rfl); k_whole; intro L' h' tk' cells' eL' F' N' Y'; k_cells Y'))
      (try dsimp only)
      (try k_fold))
  k_with "MINE enterT" => (
      w_on
      dsimp only [ComesT]
      k_fill
      intro mean mg mb dp un gd cn cs L a ccd cl outer base g gs dr tk os Q E XB TB B X T hL hk D hd hu hpre hret
      refine wpAny_call ?_
      k_dflt (first
        | (refine' enter_plain ?k3 ?k5 ?k6 ?k7 ?k8 ?k9 ?kB ?_ ?c2 ?c3 ?c4 ?c5; (case k3 => k_asm); (case k5 => k_asm); (case k6 => k_is); (case k7 => k_is); (case k8 => first | exact room0 hd | exact room1 hd rfl | exact room2 hd rfl | exact room3 hd rfl | ktr_room); (case k9 => first | exact BindsTo.of_eq rfl | exact binds_K (by k_in) rfl (by k_is) rfl rfl rfl); (case c5 => decide); (case kB => exact locs rfl); (case c2 => exact rfl); (case c3 => exact rfl); (case c4 => exact rfl); k_whole; intro L' h' eL' F' N')
        | (refine' enter_cells ?k3 ?k5 ?k6 ?k7 ?k8 ?k9 ?kB ?kD ?_ ?c2 ?c3 ?c4; (case k3 => k_asm); (case k5 => k_asm); (case k6 => k_is); (case k7 => k_is); (case k8 => first | exact room0 hd | exact room1 hd rfl | exact room2 hd rfl | exact room3 hd rfl | ktr_room); (case k9 => first | exact BindsTo.of_eq rfl | exact binds_K (by k_in) rfl (by k_is) rfl rfl rfl); (case kB => exact rfl); (case kD => decide +kernel); (case c2 => exact rfl); (case c3 => exact rfl); (case c4 => exact rfl); k_whole; intro L' h' tk' cells' eL' F' N' Y'; k_cells Y'))
      (try dsimp only)
      (try k_fold))
  k_with "call type:type" => ((with_reducible show wpAny _ _ (call _ [Value.bytes _ _]) _ _ _); refine call_type_of (Tx := "bytes") rfl (by decide +kernel) ?_)
  k_with "call builtin:list.append" => (k_here; (show wpAny _ _ (call (Value.builtin "list.append") [Value.ref _, _]) _ _ _); k_dflt (refine' append_K ?k1 ?k2 ?k3 ?_ ?z; (case k1 => k_asm); (case k2 => k_asm); (case k3 => k_upd); (case z => size_fits); k_whole); intro h' F' N'; (try simp only [List.push_toArray] at N'); (try k_sweep))
  k_with "binaryOp BitAnd int int" => ((with_reducible show wpAny _ _ (binaryOp _ (Value.int _ _) (Value.int 63 _)) _ _ _); refine and_63 ?_)
  k_with "binaryOp BitAnd int int" => ((with_reducible show wpAny _ _ (binaryOp _ (Value.int _ _) (Value.int 15 _)) _ _ _); refine and_15 ?_)
  k_with "binaryOp BitAnd int int" => ((with_reducible show wpAny _ _ (binaryOp _ (Value.int _ _) (Value.int 3 _)) _ _ _); refine and_3 ?_)
  k_with "binaryOp BitAnd int int" => ((with_reducible show wpAny _ _ (binaryOp _ (Value.int _ _) (Value.int 65535 _)) _ _ _); refine and_65535 ?_)
  k_with "binaryOp BitOr int int" => ((with_reducible show wpAny _ _ (binaryOp _ (Value.int (_ * 2 ^ _) _) (Value.int _ _)) _ _ _); refine or_low (by first | omega | (simp; omega)) (by first | omega | (simp; omega)) (by first | omega | (simp; omega)) ?_)
  k_with "subscriptTail" => ((with_reducible show wpAny _ _ (subscriptTail _ _ (Value.bytes _ _) (Value.int _ _)) _ _ _); refine item_any (by first | decide | omega | (simp; omega)) (by first | omega | (simp; omega)) (by first | omega | (simp; omega)) ?_)
  k_with "subscriptTail Name Constant ref int" => (k_here; (with_reducible show wpAny _ _ (subscriptTail _ _ (Value.ref _) (Value.int 0 _)) _ _ _); k_dflt (refine' item0_lst ?N ?m ?_ ?hs; (case N => k_asm); (case m => k_mem); (case hs => with_unfolding_all rfl); k_whole))
  k_with "truthy ref" => (k_here; k_dflt (refine' truthy_cons ?N ?m ?l ?_; (case N => k_asm); (case m => k_mem); (case l => assumption); k_whole))
  walk_at "MINE enter"
  iterate 1 (first | (k_unfold; (try dsimp only)) | walk1 | (dsimp only; walk1))
  k_fold
  refine enum_comp (stopPz fc) F' N' rfl rfl rfl (by decide) rfl (by decide) rfl rfl (by decide) (by decide) rfl rfl ?_
  have hl' : h'.IsList l vs.toArray := by
    obtain ⟨o, ho, r⟩ := hpre
    exact ⟨o, F'.keep _ _ ho, r⟩
  have hlg : ∃ o, g.get? l = some o := by
    obtain ⟨o, ho, r⟩ := hpre
    exact ⟨o, ho⟩
  k_steps
  refine call_enumerate_list hl' fun h2 hE hI hsz hk2 => ?_
  have F2 := F'.keeps hk2
  have N2 : News g L' h2 _ := fun p hp => ⟨hk2 _ _ (N' p hp).1, (N' p hp).2⟩
  have hgsz : ∀ c o, g.get? c = some o → @LT.lt Nat instLTNat c h'.objs.size := fun c o e => ltSz (F'.keep c o e)
  have hLsz : @LT.lt Nat instLTNat L' h'.objs.size := F'.ns.lt
  obtain ⟨ol, hol, rl⟩ := hl'
  have hlsz := ltSz hol
  have hlL : @LT.lt Nat instLTNat l L' := by
    obtain ⟨o, ho⟩ := hlg
    exact Nat.lt_of_lt_of_le (ltSz ho) F'.above
  have hcsz := ltSz (N' _ (.head _)).1
  have hnone : ∀ c, @LE.le Nat instLENat h'.objs.size c → g.get? c = none := fun c hc => by
    cases q : g.get? c with
    | none => rfl
    | some o => exact absurd (hgsz _ _ q) (Nat.not_lt.mpr hc)
  refine ⟨h'.objs.size + 1, h'.objs.size, l, vs, ns, rfl, hE, hI, ⟨ol, hk2 _ _ hol, rl⟩, hi, by rw [IntsAre.length hi]; exact Nat.le_trans hl (by decide), neN (by omega), neN (by omega), neN (by omega), F2, N2, hnone _ (Nat.le_succ _), hnone _ (Nat.le_refl _), (show @Ne Addr L' (h'.objs.size + 1) from neN (by omega)), (show @Ne Addr L' h'.objs.size from neN (by omega)), (show @Ne Addr l L' from neN (by omega)), ?_, ?_, ?_⟩
  · intro p hp
    obtain rfl := List.mem_singleton.mp hp
    exact ⟨neN (by omega), neN (by omega)⟩
  · intro C oC m₂ h tk E' n t' i ti rest Fh Nh hC ha hb hmem
    simp only [List.cons_append, List.nil_append] at Nh
    have hn65 := hn n hmem
    clear F' N' F2 N2 hE hI hk2 hgsz hnone hcsz hlsz hLsz
    show wpAny _ _ _ (fun ok s₃ => ok = ([0, 127].any fun x => x == bget fc n) ∧ _) _ _
    k_steps
    · assumption
    · rename News _ _ _ _ => NN
      exact fun p hp => NN p (.tail _ (.tail _ (.tail _ hp)))
  · intro D h tk ys Fh Nh hys
    clear F' N' F2 N2 hE hI hk2 hgsz hnone hcsz hlsz hLsz
    have hlh : h.IsList l vs.toArray := by
      obtain ⟨o, ho, r⟩ := hpre
      exact ⟨o, Fh.keep _ _ ho, r⟩
    generalize hq : picksTo _ ns ns.length = qs at hys
    rcases qs with _ | ⟨q, qs⟩
    · obtain rfl : ys = [] := by cases hys; rfl
      k_steps
      refine' hret _ _ _ (Fr.keep ?f0) ?r0
      case f0 => k_asm
      case r0 => unfold DueOut; rw [hq]
    · have hqm := picksTo_mem (pz := stopPz fc) (ns := ns) (i := ns.length) (q := q) (by rw [hq]; exact .head _)
      have hql := picksTo_len (stopPz fc) ns ns.length
      rw [hq] at hql
      obtain ⟨tq, ys', rfl, hys'⟩ : ∃ t ys', ys = .int q t :: ys' ∧ IntsAre ys' qs := by cases hys with | cons n t r => exact ⟨t, _, rfl, r⟩
      have hyl : ys'.length ≤ 64 := by rw [IntsAre.length hys']; exact Nat.le_trans (Nat.le_of_succ_le hql) (Nat.le_trans hl (by decide))
      have hqb : 0 ≤ q ∧ q < (ns.length : Int) := ⟨hqm.1, hqm.2.1⟩
      have hfb : 0 ≤ ns.getD q.toNat 0 ∧ ns.getD q.toNat 0 < 65 := by
        have hlt : q.toNat < ns.length := (Int.toNat_lt hqb.1).mpr hqb.2
        rw [List.getD_eq_getElem?_getD, List.getElem?_eq_getElem hlt]
        exact hn _ (List.getElem_mem hlt)
      clear hql hqm
      k_steps
      · refine' hret _ _ _ (Fr.keep ?f1) ?r1
        case f1 => k_asm
        case r1 =>
          unfold DueOut; rw [hq]; dsimp only; rw [if_pos (by assumption)]
          rename News _ _ _ _ => NN
          exact listOut_of NN (by assumption)
      · refine' hret _ _ _ (Fr.keep ?f2) ?r2
        case f2 => k_asm
        case r2 =>
          unfold DueOut; rw [hq]; dsimp only; rw [if_neg (by assumption), if_pos (by assumption)]
          rename News _ _ _ _ => NN
          exact listOut_of NN (by assumption)
      · refine' hret _ _ _ (Fr.keep ?f3) ?r3
        case f3 => k_asm
        case r3 =>
          unfold DueOut; rw [hq]; dsimp only; rw [if_neg (by assumption), if_neg (by assumption)]
end
section
open PySem.W
/-- the last c figures, to the base b, of a number -/
noncomputable def dig (b : Int) : Nat → Int → List Int
  | 0, _ => []
  | c + 1, v => dig b c (v / b) ++ [v % b]
theorem dig_snoc (b : Int) (c : Nat) (v : Int) : dig b (c + 1) v = dig b c (v / b) ++ [v % b] := rfl
theorem dig_length (b : Int) : ∀ c v, (dig b c v).length = c
  | 0, _ => rfl
  | c + 1, v => by rw [dig, List.length_append, dig_length b c]; rfl
theorem dig_in {b : Int} (hb : 0 < b) : ∀ c v, ∀ n ∈ dig b c v, 0 ≤ n ∧ n < b
  | 0, _, n, h => by cases h
  | c + 1, v, n, h => by
    rcases List.mem_append.mp h with h | h
    · exact dig_in hb c _ n h
    · rw [List.mem_singleton.mp h]
      exact ⟨Int.emod_nonneg _ (by omega), Int.emod_lt_of_pos _ hb⟩
theorem dig_range {b : Int} (hb : 0 < b) : ∀ (c : Nat) (v : Int), ((List.range c).map fun (k : Nat) => v / b ^ k % b).reverse = dig b c v
  | 0, _ => rfl
  | c + 1, v => by
    rw [List.range_succ_eq_map, List.map_cons, List.reverse_cons, List.map_map]
    have e : ((List.range c).map ((fun (k : Nat) => v / b ^ k % b) ∘ Nat.succ)) = (List.range c).map fun (k : Nat) => (v / b) / b ^ k % b := by
      refine List.map_congr_left fun k _ => ?_
      show v / b ^ (k + 1) % b = _
      rw [Int.pow_succ, Int.mul_comm, ← Int.ediv_ediv_of_nonneg (Int.le_of_lt hb)]
    rw [e, dig_range hb c, dig]
    simp
theorem dig_fdiv {b v : Int} (hb : 0 < b) (c : Nat) : ((rangeKs 0 c).map fun k' => (v.fdiv (b ^ k'.toNat)).fmod b).reverse = dig b c v := by
  rw [← dig_range hb, rangeKs, List.map_map]
  congr 1
  refine List.map_congr_left fun k _ => ?_
  show (v.fdiv (b ^ ((0 : Int) + (k : Int)).toNat)).fmod b = _
  rw [show ((0 : Int) + (k : Int)).toNat = k by omega, Int.fdiv_eq_ediv_of_nonneg _ (Int.le_of_lt (Int.pow_pos hb)), Int.fmod_eq_emod_of_nonneg _ (Int.le_of_lt hb)]
theorem top_div {V x c : Int} (h0 : 0 ≤ x) (h1 : x < c) : (V * c + x) / c = V := by
  rw [Int.add_comm, Int.add_mul_ediv_right _ _ (Int.ne_of_gt (Int.lt_of_le_of_lt h0 h1)), Int.ediv_eq_zero_of_lt h0 h1, Int.zero_add]
theorem top_mod {V x c : Int} (h0 : 0 ≤ x) (h1 : x < c) : (V * c + x) % c = x := by
  rw [Int.mul_add_emod_self_right, Int.emod_eq_of_lt h0 h1]
theorem div_two {y a b c d : Int} (ha : 0 ≤ a) (hc : 0 ≤ c) (h : a * b = c * d) : y / a / b = y / c / d := by
  rw [Int.ediv_ediv_of_nonneg ha, Int.ediv_ediv_of_nonneg hc, h]
theorem mod_div {y a b m : Int} (c : Int) (ha : 0 < a) (hm : m = a * (b * c)) : y % m / a % b = y / a % b := by
  have h : y / a = y % m / a + b * (c * (y / m)) := by
    have e := Int.emod_add_mul_ediv y m
    rw [← Int.mul_assoc, ← Int.add_mul_ediv_left _ _ (Int.ne_of_gt ha), ← Int.mul_assoc, ← hm, e]
  rw [h, Int.add_mul_emod_self_left]
theorem mod_low {V x c m : Int} : (V % m * c + x) % m = (V * c + x) % m := by
  rw [Int.add_emod, Int.mul_emod, Int.emod_emod, ← Int.mul_emod, ← Int.add_emod]
theorem mod_top {V n c z : Int} (h0 : 0 ≤ z) (h1 : z < c) (hn : 0 < n) : (V * c + z) % (n * c) = V % n * c + z := by
  have hb := fit4 (d := n * c) (Int.emod_nonneg V (Int.ne_of_gt hn)) (Int.emod_lt_of_pos V hn) h0 h1 (Int.le_of_eq (Int.mul_comm c n))
  have e : V * c + z = V % n * c + z + n * c * (V / n) := by
    have e1 := Int.emod_add_mul_ediv V n
    rw [Int.add_right_comm, Int.mul_right_comm, ← Int.add_mul, e1]
  rw [e, Int.add_mul_emod_self_left, Int.emod_eq_of_lt hb.1 hb.2]
theorem part_div {V x a b : Int} (hb : 0 < b) : (V * (a * b) + x) / b = V * a + x / b := by
  rw [Int.add_comm, ← Int.mul_assoc, Int.add_mul_ediv_right _ _ (Int.ne_of_gt hb), Int.add_comm]
theorem part_mod {V x a b : Int} : (V * (a * b) + x) % b = x % b := by
  rw [← Int.mul_assoc, Int.mul_add_emod_self_right]
theorem bstep0 (lc b : Int) (o : List Int) : bstep (lc, 0, o) b = ((lc * 256 + b) % 65536, 2, o ++ [code ((lc * 256 + b) % 65536 / 4 % 64)]) := rfl
theorem bstep2 (lc b : Int) (o : List Int) : bstep (lc, 2, o) b = ((lc * 256 + b) % 65536, 4, o ++ [code ((lc * 256 + b) % 65536 / 16 % 64)]) := rfl
theorem bstep4 (lc b : Int) (o : List Int) : bstep (lc, 4, o) b = ((lc * 256 + b) % 65536, 0, (o ++ [code ((lc * 256 + b) % 65536 / 64 % 64)]) ++ [code ((lc * 256 + b) % 65536 % 64)]) := rfl
/-- b2a_base64's state -/
theorem bst_eq (bs : List Int) : (∀ n ∈ bs, 0 ≤ n ∧ n < 256) → ∃ m : Nat,
    (bs.length = 3 * m ∧ bst bs = (val 256 bs % 65536, 0, (dig 64 (4 * m) (val 256 bs)).map code)) ∨
    (bs.length = 3 * m + 1 ∧ bst bs = (val 256 bs % 65536, 2, (dig 64 (4 * m + 1) (val 256 bs / 4)).map code)) ∨
    (bs.length = 3 * m + 2 ∧ bst bs = (val 256 bs % 65536, 4, (dig 64 (4 * m + 2) (val 256 bs / 16)).map code)) := by
  induction bs using rev_ind with
  | h0 => exact fun _ => ⟨0, .inl ⟨rfl, rfl⟩⟩
  | hs pre x ih =>
  intro hn
  obtain ⟨m, h⟩ := ih (fun n hm => hn n (List.mem_append_left _ hm))
  have hx := hn x (List.mem_append_right _ (List.mem_singleton.mpr rfl))
  clear hn ih
  rw [val_snoc, bst_snoc, List.length_append]
  generalize val 256 pre = V at h ⊢
  have t := top_div (V := V) hx.1 hx.2
  rcases h with ⟨hm, e⟩ | ⟨hm, e⟩ | ⟨hm, e⟩
  · refine ⟨m, .inr (.inl ⟨congrArg (· + 1) hm, ?_⟩)⟩
    rw [e, bstep0, mod_low, mod_div (a := 4) (b := 64) (m := 65536) 256 (by decide) rfl, dig_snoc, List.map_append, Int.ediv_ediv_of_nonneg (by decide), show (4 : Int) * 64 = 256 from rfl, t]
    rfl
  · refine ⟨m, .inr (.inr ⟨congrArg (· + 1) hm, ?_⟩)⟩
    rw [e, bstep2, mod_low, mod_div (a := 16) (b := 64) (m := 65536) 64 (by decide) rfl, dig_snoc 64 (4 * m + 1) ((V * 256 + x) / 16), List.map_append, div_two (a := 16) (b := 64) (c := 256) (d := 4) (by decide) (by decide) rfl, t]
    rfl
  · refine ⟨m + 1, .inl ⟨congrArg (· + 1) hm, ?_⟩⟩
    rw [e, bstep4, mod_low, mod_div (a := 64) (b := 64) (m := 65536) 16 (by decide) rfl, Int.emod_emod_of_dvd _ (show (64 : Int) ∣ 65536 from ⟨1024, rfl⟩), show 4 * (m + 1) = 4 * m + 2 + 1 + 1 from rfl, dig_snoc 64 (4 * m + 2 + 1), dig_snoc 64 (4 * m + 2) ((V * 256 + x) / 64), List.map_append, List.map_append, div_two (a := 64) (b := 64) (c := 256) (d := 16) (by decide) (by decide) rfl, t]
    rfl
/-- the figures of a row of octets, and how many = fill the fours -/
noncomputable def figsOf (bs : List Int) : List Int := dig 64 ((bs.length * 4 + 2) / 3) (val 256 bs * 2 ^ ((bs.length * 4 + 2) / 3 * 6 - bs.length * 8))
def padsOf (bs : List Int) : Nat := (3 - bs.length % 3) % 3
theorem len4 (m r : Nat) : ((3 * m + r) * 4 + 2) / 3 = 4 * m + (r * 4 + 2) / 3 := by
  rw [Nat.add_mul, Nat.mul_assoc, Nat.mul_comm m 4, Nat.add_assoc, Nat.mul_add_div (by decide)]
theorem exp8 (m c r : Nat) : (4 * m + c) * 6 - (3 * m + r) * 8 = c * 6 - r * 8 := by
  rw [Nat.add_mul, Nat.add_mul, Nat.mul_right_comm, Nat.mul_right_comm 3, Nat.add_sub_add_left]
theorem figsOf_at {bs : List Int} (m r : Nat) (h : bs.length = 3 * m + r) : figsOf bs = dig 64 (4 * m + (r * 4 + 2) / 3) (val 256 bs * 2 ^ ((r * 4 + 2) / 3 * 6 - r * 8)) := by
  unfold figsOf; rw [h, len4, exp8]
theorem padsOf_at {bs : List Int} (m r : Nat) (h : bs.length = 3 * m + r) : padsOf bs = (3 - r % 3) % 3 := by
  unfold padsOf; rw [h, Nat.mul_add_mod]
theorem mul_mod_top {y a b m n : Int} (c : Int) (ha : 0 < a) (hm : m = b * c) (hn : n = a * b) : y % m % b * a = y * a % n := by
  rw [Int.emod_emod_of_dvd _ ⟨c, hm⟩, hn, Int.mul_comm y a, Int.mul_emod_mul_of_pos _ _ ha, Int.mul_comm]
theorem mul_div_top {y a b n : Int} (ha : 0 < a) (hn : n = b * a) : y * a / n = y / b := by rw [hn, Int.mul_ediv_mul_of_pos_left _ _ ha]
theorem bfin_eq {bs : List Int} (h : ∀ n ∈ bs, 0 ≤ n ∧ n < 256) : bfin (bst bs) = (figsOf bs).map code ++ List.replicate (padsOf bs) 61 := by
  obtain ⟨m, h⟩ := bst_eq bs h
  rcases h with ⟨hm, e⟩ | ⟨hm, e⟩ | ⟨hm, e⟩
  · rw [e, figsOf_at m 0 hm, padsOf_at m 0 hm, show val 256 bs * 2 ^ ((0 * 4 + 2) / 3 * 6 - 0 * 8) = val 256 bs from Int.mul_one _]
    exact (List.append_nil _).symm
  · rw [e, figsOf_at m 1 hm, padsOf_at m 1 hm, show val 256 bs * 2 ^ ((1 * 4 + 2) / 3 * 6 - 1 * 8) = val 256 bs * 16 from rfl, show 4 * m + (1 * 4 + 2) / 3 = 4 * m + 1 + 1 from rfl, dig_snoc 64 _ (val 256 bs * 16), List.map_append, mul_div_top (a := 16) (b := 4) (n := 64) (by decide) rfl, ← mul_mod_top (a := 16) (m := 65536) (b := 4) (n := 64) 16384 (by decide) rfl rfl]
    exact (List.append_assoc _ _ _)
  · rw [e, figsOf_at m 2 hm, padsOf_at m 2 hm, show val 256 bs * 2 ^ ((2 * 4 + 2) / 3 * 6 - 2 * 8) = val 256 bs * 4 from rfl, show 4 * m + (2 * 4 + 2) / 3 = 4 * m + 2 + 1 from rfl, dig_snoc 64 _ (val 256 bs * 4), List.map_append, mul_div_top (a := 4) (b := 16) (n := 64) (by decide) rfl, ← mul_mod_top (a := 4) (m := 65536) (b := 16) (n := 64) 4096 (by decide) rfl rfl]
    rfl
theorem neg4 (m r k : Nat) (h : r + k = 4 ∨ r + k = 0) : ((-((4 * m + r : Nat) : Int)).fmod 4).toNat = k % 4 := by
  rw [Int.fmod_eq_emod_of_nonneg _ (by decide)]
  have e : (-((4 * m + r : Nat) : Int)) % 4 = ((k : Nat) : Int) % 4 := by
    rcases h with h | h
    · rw [show (-((4 * m + r : Nat) : Int)) = (k : Int) + 4 * (-((m : Int) + 1)) by omega, Int.add_mul_emod_self_left]
    · rw [show (-((4 * m + r : Nat) : Int)) = (k : Int) + 4 * (-(m : Int)) by omega, Int.add_mul_emod_self_left]
  rw [e]; rfl
theorem thirds (n : Nat) : ∃ m r, n = 3 * m + r ∧ (r = 0 ∨ r = 1 ∨ r = 2) :=
  ⟨n / 3, n % 3, (Nat.div_add_mod n 3).symm, by have := Nat.mod_lt n (show 3 > 0 by decide); revert this; generalize n % 3 = r; revert r; decide⟩
theorem rep_flat (n : Nat) (x : Int) : (List.replicate n [x]).flatten = List.replicate n x := by
  induction n with
  | zero => rfl
  | succ n ih => rw [List.replicate_succ, List.flatten_cons, ih]; rfl
theorem shown_eq {bs : List Int} (_h : ∀ n ∈ bs, 0 ≤ n ∧ n < 256) : shown bs = figsOf bs ++ List.replicate (padsOf bs) 64 := by
  have hc : ((bs.length : Int) * 4 + 2).fdiv 3 = (((bs.length * 4 + 2) / 3 : Nat) : Int) := Int.fdiv_eq_ediv_of_nonneg _ (by decide)
  have hp : ((-(((bs.length * 4 + 2) / 3 : Nat) : Int)).fmod 4).toNat = padsOf bs := by
    obtain ⟨m, r, e, hr⟩ := thirds bs.length
    rw [padsOf_at m r e, e, len4]
    rcases hr with rfl | rfl | rfl
    · exact neg4 m 0 0 (.inr rfl)
    · exact neg4 m 2 2 (.inl rfl)
    · exact neg4 m 3 1 (.inl rfl)
  unfold shown figsOf
  rw [hc, dig_fdiv (b := 64) (by decide), hp, rep_flat, Int.sub_zero]
  rw [show ((((bs.length * 4 + 2) / 3 : Nat) : Int) * 6 - (bs.length : Int) * 8).toNat = (bs.length * 4 + 2) / 3 * 6 - bs.length * 8 from Int.toNat_sub _ _]
  rfl
theorem dstep0 (lc f : Int) (o : List Int) : dstep (0, lc, o) f = (1, f, o) := rfl
theorem dstep1 (lc f : Int) (o : List Int) : dstep (1, lc, o) f = (2, f % 16, o ++ [lc * 4 + f / 16]) := rfl
theorem dstep2 (lc f : Int) (o : List Int) : dstep (2, lc, o) f = (3, f % 4, o ++ [lc * 16 + f / 4]) := rfl
theorem dstep3 (lc f : Int) (o : List Int) : dstep (3, lc, o) f = (0, 0, o ++ [lc * 64 + f]) := rfl
/-- a2b_base64's state -/
theorem dst_eq (fs : List Int) : (∀ n ∈ fs, 0 ≤ n ∧ n < 64) → ∃ m : Nat,
    (fs.length = 4 * m ∧ dst fs = (0, 0, dig 256 (3 * m) (val 64 fs))) ∨
    (fs.length = 4 * m + 1 ∧ dst fs = (1, val 64 fs % 64, dig 256 (3 * m) (val 64 fs / 64))) ∨
    (fs.length = 4 * m + 2 ∧ dst fs = (2, val 64 fs % 16, dig 256 (3 * m + 1) (val 64 fs / 16))) ∨
    (fs.length = 4 * m + 3 ∧ dst fs = (3, val 64 fs % 4, dig 256 (3 * m + 2) (val 64 fs / 4))) := by
  induction fs using rev_ind with
  | h0 => exact fun _ => ⟨0, .inl ⟨rfl, rfl⟩⟩
  | hs pre x ih =>
  intro hn
  obtain ⟨m, h⟩ := ih (fun n hm => hn n (List.mem_append_left _ hm))
  have hx := hn x (List.mem_append_right _ (List.mem_singleton.mpr rfl))
  clear hn ih
  rw [val_snoc, dst_snoc, List.length_append]
  generalize val 64 pre = V at h ⊢
  have t := top_div (V := V) hx.1 hx.2
  have d16 := div_in (a := 4) (b := 16) hx.1 hx.2 (by decide)
  have d4 := div_in (a := 16) (b := 4) hx.1 hx.2 (by decide)
  have p16 : (V * 64 + x) / 16 = V * 4 + x / 16 := part_div (a := 4) (b := 16) (by decide)
  have p4 : (V * 64 + x) / 4 = V * 16 + x / 4 := part_div (a := 16) (b := 4) (by decide)
  have m16 : (V * 64 + x) % 16 = x % 16 := part_mod (a := 4) (b := 16)
  have m4 : (V * 64 + x) % 4 = x % 4 := part_mod (a := 16) (b := 4)
  rcases h with ⟨hm, e⟩ | ⟨hm, e⟩ | ⟨hm, e⟩ | ⟨hm, e⟩
  · refine ⟨m, .inr (.inl ⟨congrArg (· + 1) hm, ?_⟩)⟩
    rw [e, dstep0, t, top_mod hx.1 hx.2]
  · refine ⟨m, .inr (.inr (.inl ⟨congrArg (· + 1) hm, ?_⟩))⟩
    rw [e, dstep1, m16, dig_snoc, div_two (a := 16) (b := 256) (c := 64) (d := 64) (by decide) (by decide) rfl, t, p16, ← mod_top (n := 64) d16.1 d16.2 (by decide)]
    rfl
  · refine ⟨m, .inr (.inr (.inr ⟨congrArg (· + 1) hm, ?_⟩))⟩
    rw [e, dstep2, m4, dig_snoc 256 (3 * m + 1) ((V * 64 + x) / 4), div_two (a := 4) (b := 256) (c := 64) (d := 16) (by decide) (by decide) rfl, t, p4, ← mod_top (n := 16) d4.1 d4.2 (by decide)]
    rfl
  · refine ⟨m + 1, .inl ⟨congrArg (· + 1) hm, ?_⟩⟩
    rw [e, dstep3, show 3 * (m + 1) = 3 * m + 2 + 1 from rfl, dig_snoc 256 (3 * m + 2) (V * 64 + x), show (V * 64 + x) / 256 = (V * 64 + x) / 64 / 4 from (Int.ediv_ediv_of_nonneg (y := 64) (z := 4) (by decide)).symm, t, ← mod_top (n := 4) hx.1 hx.2 (by decide)]
    rfl
theorem dst_place {fs : List Int} (h : ∀ n ∈ fs, 0 ≤ n ∧ n < 64) : (dst fs).1 = ((fs.length % 4 : Nat) : Int) := by
  obtain ⟨m, h⟩ := dst_eq fs h
  rcases h with ⟨hm, e⟩ | ⟨hm, e⟩ | ⟨hm, e⟩ | ⟨hm, e⟩
  · rw [e, hm, Nat.mul_mod_right]; rfl
  all_goals (rw [e, hm, Nat.mul_add_mod]; rfl)
theorem oct_e (m r : Nat) : ((-2 * ((4 * m + r : Nat) : Int)).fmod 8).toNat = ((-2 * (r : Int)) % 8).toNat := by
  rw [Int.fmod_eq_emod_of_nonneg _ (by decide), show -2 * ((4 * m + r : Nat) : Int) = -2 * (r : Int) + 8 * (-(m : Int)) by omega, Int.add_mul_emod_self_left]
theorem oct_c (m r : Nat) : (4 * m + r) * 3 / 4 = 3 * m + r * 3 / 4 := by
  rw [Nat.add_mul, Nat.mul_assoc, Nat.mul_add_div (by decide), Nat.mul_comm m 3]
theorem octs_at {fs : List Int} (m r : Nat) (h : fs.length = 4 * m + r) : octs fs = dig 256 (3 * m + r * 3 / 4) ((val 64 fs).fdiv (2 ^ ((-2 * (r : Int)) % 8).toNat)) := by
  unfold octs
  rw [dig_fdiv (b := 256) (by decide), show ((fs.length : Int) * 3).fdiv 4 = ((fs.length * 3 / 4 : Nat) : Int) from Int.fdiv_eq_ediv_of_nonneg _ (by decide), Int.sub_zero, h, oct_e, oct_c]
  rfl
theorem octs_dst {fs : List Int} (h : ∀ n ∈ fs, 0 ≤ n ∧ n < 64) : octs fs = (dst fs).2.2 := by
  obtain ⟨m, h⟩ := dst_eq fs h
  rcases h with ⟨hm, e⟩ | ⟨hm, e⟩ | ⟨hm, e⟩ | ⟨hm, e⟩
  · rw [e, octs_at m 0 hm, Int.fdiv_eq_ediv_of_nonneg _ (by decide)]; exact congrArg (dig 256 (3 * m)) (Int.ediv_one _)
  all_goals (rw [e, octs_at m _ hm, Int.fdiv_eq_ediv_of_nonneg _ (by decide)]; rfl)
end
section
open PySem PySem.W PySem.Spec PySem.Calls PyProof.Rows
theorem turn_upTo {fs : List Addr} {g g' h : Heap} (T : KtsTurn fs g g') (k : g'.StaysIn h) : g.UpToSlots h := fun b o e _ => by
  obtain ⟨sl, hs⟩ := T.up e
  exact ⟨sl, k b _ hs⟩
theorem comesT_use {w : World} {mean : ExcName → Option Value} {mg mb : Str → Option Value} {need : Nat} {f : Addr} {vs : List Value} {kw : List (Str × Value)} {news : List (Addr × Obj)} {pre : Heap → Prop} {R : Value → Heap → Heap → Prop}
    {dp un : Nat} {gd : Option (List Code)} {cn : Str} {cs : Scope} {a : Addr} {ccd : Value} {cl : List (Str × Addr)} {outer : List Env} {A₀ : Around} {base h₀ : Heap} {L : Addr} {m : Str → Option Value} {s : Shared} {Q E : Value → Shared → Prop}
    (C : ComesT w need f vs kw pre R)
    (B : Below A₀ base outer h₀) (F : Fr h₀ L s.heap m) (X₀ : (Mine.hd.heap_39 w.params).In h₀) (N : News h₀ L s.heap news) (T : Top Mine.hd.view_39 loose0 mean mg mb h₀) (hk : cs.kind = .function)
    (XB : (Mine.hd.heap_39 w.params).In base) (TB : Top Mine.hd.view_39 loose0 mean mg mb base) (D : KtsDicts (framesOf outer) h₀)
    (hd : dp + need < recursionLimit) (hu : un + 8 * need < cLine) (hp : pre s.heap)
    (h : ∀ (v : Value) (h₀' g' h' : Heap) (tk' : Nat) (gs' : Array GenState), KtsTurn (framesOf outer) h₀ h₀' → Fr h₀' L h' m → News h₀' L h' news → Below A₀ base outer h₀' → (Mine.hd.heap_39 w.params).In h₀' → Top Mine.hd.view_39 loose0 mean mg mb h₀' → KtsDicts (framesOf outer) h₀' →
      (AllBare s.gens → AllBare gs') → (∀ b, g'.get? b = none → h₀'.get? b = none) → R v g' h' → Q v { s with heap := h', toks := tk', gens := gs' }) :
    wpAny (model PySem.Challenge.rw_pa0026_01.row.prog w) (ktrTop dp un gd cn cs L a ccd cl outer) (call (.ref f) vs kw) Q E s := by
  obtain ⟨_, BG, st, _⟩ := groundX (A := ktrTop dp un gd cn cs L a ccd cl outer) (env := envX cn cs L a ccd cl) (R := fun _ _ => True) B F (News.nil) rfl rfl hk
  refine C mean mg mb dp un gd cn cs L a ccd cl outer base s.heap s.gens s.drawn s.toks s.os Q E XB TB BG (X₀.keeps F.keep) (T.keeps F.keep) (fr_some F) hk (dicts_push F D) hd hu hp fun v g' h' tk' gs' T' hst hb hr => ?_
  have nL₀ : h₀.get? L = none := kts_self F
  have hfr : ∀ b, b ∈ framesOf (envX cn cs L a ccd cl :: outer) → b = L ∨ b ∈ framesOf outer := fun b hm => by
    obtain ⟨env, he, hf⟩ := List.mem_filterMap.mp hm
    rcases List.mem_cons.mp he with rfl | he
    · exact .inl (Option.some.inj hf).symm
    · exact .inr (List.mem_filterMap.mpr ⟨env, he, hf⟩)
  obtain ⟨T₁, S₁⟩ := kts_turn_at (h := h') (fs := framesOf outer) (g := h₀)
    (fun b hb => by obtain ⟨o, _, _, ho, _⟩ := D b hb; exact ⟨o, ho⟩)
    (fun b o e nm => hst b o (T'.other b o (F.keep b o e) fun hm => by
      rcases hfr b hm with z | z
      · rw [z, nL₀] at e; cases e
      · exact nm z))
    (fun b o e _ => by obtain ⟨sl, hs⟩ := T'.up (F.keep b o e); exact ⟨sl, hst _ _ hs⟩)
  have B₁ : Below A₀ base outer (ktsHeap h' (framesOf outer) h₀) := ⟨B.stack, fun b o e => T₁.other b o (B.stays b o e) (fun hm => by rw [(B.frames.mem hm).1] at e; cases e), B.frames.of_keeps fun b o e _ => by
    obtain ⟨sl', hs'⟩ := T₁.up e
    exact ⟨_, hs', rfl⟩⟩
  refine h v _ g' h' tk' gs' T₁ ⟨(turn_upTo T' hst).ns F.ns, S₁, by rw [T₁.size]; exact F.above⟩ (fun p hp => ?_) B₁ (XB.keeps B₁.stays) (TB.keeps B₁.stays) (D.turn T₁) hb (fun b hn => ?_) hr
  · refine ⟨hst _ _ (T'.other _ _ (N p hp).1 fun hm => ?_), (N p hp).2.1, T₁.none_ _ (N p hp).2.2⟩
    rcases hfr _ hm with z | z
    · exact (N p hp).2.1 z
    · obtain ⟨o, _, _, ho, _⟩ := D _ z
      rw [(N p hp).2.2] at ho; cases ho
  · refine T₁.none_ _ ?_
    cases q : h₀.get? b with
    | none => rfl
    | some o =>
      obtain ⟨sl, hs⟩ := T'.up (F.keep _ _ q)
      rw [hn] at hs; cases hs
end
section
set_option maxRecDepth 100000
open PySem PySem.W PySem.Spec PySem.Calls PyProof.Rows PyProof.Rows.LCg
section
variable {prog : Program} {w : World} {A : Around} {E : Value → Shared → Prop} {s : Shared} {h₀ : Heap} {L : Addr} {m : Str → Option Value} {env : Env}
/-- what a filter's source must tell -/
def FSrc (prog : Program) (w : World) (A : Around) (h₀ : Heap) (env : Env) (m : Str → Option Value) (news : List (Addr × Obj)) (b y : Str) (c : Expr) (scope : Scope) (cl : List (Str × Addr)) (pz : Int → Bool) (Q : Flow → Shared → Prop) (xv : Value) (s₁ : Shared) : Prop :=
  ∃ (l : Addr) (vs : List Value) (ns : List Int), xv = .ref l ∧ s₁.heap.IsList l vs.toArray ∧ IntsAre vs ns ∧ vs.length ≤ 64 ∧
      Fr h₀ env.locals s₁.heap m ∧ News h₀ env.locals s₁.heap news ∧
      (∀ C oC m₂ h tk E' n t, Fr h₀ env.locals h m → News h₀ env.locals h ((C, oC) :: news) → NsObj oC m₂ → m₂ b = some (.int n t) → n ∈ ns →
        wpAny (model prog w) A (isTrue c (compEnvC scope cl C env) (eval c (compEnvC scope cl C env))) (fun ok s₃ => ok = pz n ∧ ∃ tk', s₃ = { s₁ with heap := h, toks := tk' }) E' { s₁ with heap := h, toks := tk }) ∧
      (∀ D h tk ys, Fr h₀ env.locals h (fun z => if z = y then some (.ref D) else m z) → News h₀ env.locals h ((D, lst ys) :: news) → IntsAre ys (ns.filter pz) → Q .next { s₁ with heap := h, toks := tk })
theorem filt_comp {b y : Str} {pb py ep spos pos : Pos} {iter c : Expr} {scope : Scope} {cl : List (Str × Addr)} {news : List (Addr × Obj)} {Q : Flow → Shared → Prop} (pz : Int → Bool)
    (_F₀ : Fr h₀ env.locals s.heap m) (_N₀ : News h₀ env.locals s.heap news) (hh : A.handled = none)
    (hsw : swapsWith (.ListComp (.Name b ep) [⟨.Name b pb, iter, [c], 0⟩] scope pos) (some (.Name y py)) spos.line env = pure true)
    (hclos : closureFor scope env = pure cl) (hcell : ∀ z ∈ scope.names, z.2 ≠ .cell) (hkind : scope.kind = .function)
    (hnames : ∀ z ∈ scope.names, z.2 = .local → scope.names.lookup z.1 = some .local) (hxb : scope.names.lookup b = some .local) (hdb : (b == ("__debug__" : Str)) = false)
    (hy : env.kindOf y = some .local) (hp : (env.scope.kind == .class || (env.scope.kind == .module && env.locals != env.globals)) = false)
    (h : wpAny (model prog w) A (eval iter env) (FSrc prog w A h₀ env m news b y c scope cl pz Q) E s)
    (hs : ∀ x, foldedSetIterable iter env x = pure x := by intro _; rfl) :
    wpAny (model prog w) A (exec (.Assign [.Name y py] (.ListComp (.Name b ep) [⟨.Name b pb, iter, [c], 0⟩] scope pos) spos) env) Q E s := by
  k_with_none
  k_with "lt" => first | assumption | exact Nat.lt_succ_of_lt (by assumption) | exact Nat.lt_succ_self _ | exact Nat.lt_succ_of_lt (Nat.lt_succ_of_lt (by assumption)) | exact Nat.lt_succ_of_lt (Nat.lt_succ_self _)
  k_with "ne" => first | assumption | exact Nat.ne_of_lt (by k_extra "lt") | exact Nat.ne_of_gt (by k_extra "lt") | (walk_say "NE FELL"; omega)
  rw [exec_Assign_Name_used _ _ _ _ hsw]
  refine wpAny_bind (wpAny_standAt (wpAny_bind ?_))
  show wpAny _ A (do let _ ← comprehension (.ListComp (.Name b ep) [⟨.Name b pb, iter, [c], 0⟩] scope pos) scope env _ (newList []) false (eval iter env) (some (assign (.Name y py) env))) _ _ s
  refine wpAny_bind (wpAny_mono (wpAny_comprehension_free (use := some (assign (.Name y py) env)) (Q := fun _ s' => Q .next s') rfl hs hclos hkind hnames
    (wpAny_mono h (fun xv s₁ h₁ => ?_) fun _ _ e => e)) (fun _ s' hq => wpAny_pure (wpAny_pure hq)) fun _ _ e => e)
  obtain ⟨l, vs, ns, rfl, hl, hints, hlen, F, N, htest, hfin⟩ := h₁
  refine wpAny_pyIter_list hl ?_
  have hlI : l ≠ s₁.heap.objs.size := by obtain ⟨o, ho, _⟩ := hl; exact Nat.ne_of_lt (ltSz ho)
  have W := Walks.list (prog := prog) (w := w) hh s₁.heap.objs.size l hlI vs.toArray
  have hst0 : (s₁.heap.push { cls := .type "list_iterator", data := .fields #[.ref l, .int 0 0] }).IsListIter s₁.heap.objs.size l 0 ∧ (s₁.heap.push { cls := .type "list_iterator", data := .fields #[.ref l, .int 0 0] }).IsList l vs.toArray := ⟨⟨_, Heap.get?_push_size _ rfl, rfl, rfl⟩, hl.push _⟩
  have hkp1 : ∀ c o, s₁.heap.get? c = some o → (s₁.heap.push { cls := .type "list_iterator", data := .fields #[.ref l, .int 0 0] }).get? c = some o := fun c o e => Heap.get?_push_of_some _ e
  have hsz1 : (s₁.heap.push { cls := .type "list_iterator", data := .fields #[.ref l, .int 0 0] }).objs.size = s₁.heap.objs.size + 1 := Heap.size_push ..
  generalize (s₁.heap.push { cls := .type "list_iterator", data := .fields #[.ref l, .int 0 0] }) = H1 at hst0 hkp1 hsz1 ⊢
  refine wpAny_newObj_type (wpAny_newFunctionEnv hcell (by intro y hy; simp at hy) (fun h₃ hns₃ hsb₃ => ?_) hkind)
  dsimp only at hns₃ hsb₃ ⊢
  have hC : (H1.push { cls := .type "list", dict := none, data := .seq ([] : List Value).toArray }).objs.size = H1.objs.size + 1 := Heap.size_push ..
  have hDn : (H1.push { cls := .type "list", dict := none, data := .seq ([] : List Value).toArray }).get? H1.objs.size = some _ := Heap.get?_push_size _ rfl
  have hkp : ∀ c o, H1.get? c = some o → (H1.push { cls := .type "list", dict := none, data := .seq ([] : List Value).toArray }).get? c = some o := fun c o e => Heap.get?_push_of_some _ e
  generalize (H1.push { cls := .type "list", dict := none, data := .seq ([] : List Value).toArray }) = H2 at hC hns₃ hsb₃ hDn hkp ⊢
  generalize H2.objs.size = C at hC hns₃ hsb₃ ⊢
  have hlt : ∀ c o, s₁.heap.get? c = some o → @LT.lt Nat instLTNat c s₁.heap.objs.size := fun c o e => ltSz e
  have hlt1 : ∀ c o, H1.get? c = some o → @LT.lt Nat instLTNat c H1.objs.size := fun c o e => ltSz e
  generalize hD : H1.objs.size = D at hC hDn hsz1 hlt1 ⊢
  generalize hI : s₁.heap.objs.size = I at hsz1 hlt W hst0 hlI ⊢
  subst hC hsz1
  have up₃ : ∀ c o, H1.get? c = some o → h₃.get? c = some o := fun c o e => by
    have := hlt1 c o e
    exact hsb₃.extBut _ _ (neN (by k_extra "ne")) (Heap.get?_push_of_some _ (hkp c o e))
  have hlive : ∀ c o, h₀.get? c = some o → @LT.lt Nat instLTNat c I := fun c o e => hlt c o (F.keep c o e)
  have hLI : @LT.lt Nat instLTNat env.locals I := hI ▸ F.ns.lt
  have hD0 : h₀.get? (I + 1) = none := by
    cases q : h₀.get? (I + 1) with
    | none => rfl
    | some o => exact absurd (hlive _ _ q) (Nat.not_lt.mpr (by first | exact Nat.le_refl _ | exact Nat.le_add_right _ _ | exact Nat.le_trans (Nat.le_add_right _ _) (Nat.le_add_right _ _)))
  have hC0 : h₀.get? (I + 1 + 1) = none := by
    cases q : h₀.get? (I + 1 + 1) with
    | none => rfl
    | some o => exact absurd (hlive _ _ q) (Nat.not_lt.mpr (by first | exact Nat.le_refl _ | exact Nat.le_add_right _ _ | exact Nat.le_trans (Nat.le_add_right _ _) (Nat.le_add_right _ _)))
  have hnI : ∀ p ∈ news, @LT.lt Nat instLTNat p.1 I := fun p hp => hlt _ _ (N p hp).1
  have hlI' : @LT.lt Nat instLTNat l I := by obtain ⟨o, ho, _⟩ := hl; exact hlt _ _ ho
  have hvl : ns.length = vs.length := (IntsAre.length hints).symm
  have loop : codeAny (model prog w) A (.compLoop (.ListComp (.Name b ep) [⟨.Name b pb, iter, [c], 0⟩] scope pos) 0 (.ref I) (.ref (I + 1)) (compEnvC scope cl (I + 1 + 1) env))
      (compPost (model prog w) A E (some (assign (.Name y py) env)) (fun _ s' => Q .next s') (.ref (I + 1)) (I + 1 + 1)) { s₁ with heap := h₃, toks := s₁.toks + ([] : List (Str × Value)).length } := by
    refine kct_loop (fun k s => ∃ i h tk ys m', i ≤ vs.length ∧ k = vs.length + 1 - i ∧ s = { s₁ with heap := h, toks := tk } ∧ (h.IsListIter I l i ∧ h.IsList l vs.toArray) ∧ h.Ns (I + 1 + 1) m' ∧ h.get? (I + 1) = some (lst ys) ∧ IntsAre ys ((ns.take i).filter pz) ∧ ys.length ≤ i ∧
      (∀ (c : Addr) (o : Obj), s₁.heap.get? c = some o → h.get? c = some o)) ?_ (vs.length + 1) ⟨0, h₃, _, [], _, Nat.zero_le _, rfl, rfl, W.frame 0 _ _ hst0 (fun b _ o e => up₃ b o e), hns₃, hsb₃.extBut _ _ (neN (by k_extra "ne")) (Heap.get?_push_of_some _ hDn), .nil, Nat.le_refl _, fun c o e => up₃ c o (hkp1 c o e)⟩
    rintro k s ⟨i, h, tk, ys, m', hi, rfl, rfl, hst, hns, hlst, hys, hyl, hkeep⟩
    by_cases hlt2 : i < vs.length
    · refine W.item i _ _ _ (by simpa using hlt2) hst fun x h₁ tk₁ hx hst₁ hk₁ => ?_
      obtain ⟨n, tn, rfl, hn⟩ := IntsAre.at hints i x (by simpa using hx)
      have hmem : n ∈ ns := List.mem_of_getElem? hn
      have k₁ : ∀ (c : Addr) (o : Obj), c ≠ I → h.get? c = some o → h₁.get? c = some o := fun c o c1 e => hk₁ c o (by simp [c1]) e
      have hns₁ : h₁.Ns (I + 1 + 1) m' := hns.at' fun o e => k₁ _ o (neN (by k_extra "ne")) e
      refine wpAny_pure ?_
      refine wpAny_assign_Name (wpAny_storeName_local (env := compEnvC scope cl (I + 1 + 1) env) (lookup_relabel_local hxb) hns₁ (fun h₄ hn₄ hs₄ => ?_) (by simp [compEnvC, relabel, hkind]))
      have hs4 : Heap.SameBut (I + 1 + 1) h₁ h₄ := hs₄
      have hn5 : h₄.Ns (I + 1 + 1) (fun z => if z = b then some (.int n tn) else m' z) := hn₄
      obtain ⟨oC, hoC, hCn⟩ := ns_obj hn5
      have k₄ : ∀ (c : Addr) (o : Obj), c ≠ I → c ≠ I + 1 + 1 → h.get? c = some o → h₄.get? c = some o := fun c o c1 c3 e => hs4.extBut c o c3 (k₁ c o c1 e)
      have kk₄ : ∀ (c : Addr) (o : Obj), s₁.heap.get? c = some o → h₄.get? c = some o := fun c o e => by
        have := hlt c o e
        exact k₄ c o (neN (by k_extra "ne")) (neN (by k_extra "ne")) (hkeep c o e)
      have F4 : Fr h₀ env.locals h₄ m := F.keeps kk₄
      have N4 : News h₀ env.locals h₄ ((I + 1 + 1, oC) :: news) := fun p hp => by
        rcases List.mem_cons.mp hp with rfl | hp
        · exact ⟨hoC, neN (by k_extra "ne"), hC0⟩
        · exact ⟨kk₄ _ _ (N p hp).1, (N p hp).2⟩
      have hst₄ : h₄.IsListIter I l (i + 1) ∧ h₄.IsList l vs.toArray := by
        refine W.frame (i + 1) _ _ hst₁ fun c hc o e1 => hs4.extBut c o ?_ e1
        have hc' : @Eq Nat c I ∨ @Eq Nat c l := by simpa using hc
        rcases hc' with rfl | rfl <;> exact neN (by k_extra "ne")
      have hlst₄ : h₄.get? (I + 1) = some (lst ys) := k₄ _ _ (neN (by k_extra "ne")) (neN (by k_extra "ne")) hlst
      refine wpAny_mono (htest (I + 1 + 1) oC _ h₄ _ _ n tn F4 N4 hCn (by simp) hmem) (fun ok s₃ hs₃ => ?_) fun _ _ e => e
      obtain ⟨rfl, tk', rfl⟩ := hs₃
      have hps : (ns.take (i + 1)).filter pz = (ns.take i).filter pz ++ [n].filter pz := by
        rw [← List.filter_append]
        congr 1
        rw [List.take_add_one, hn]; rfl
      by_cases hpn : pz n = true
      · rw [List.filter_cons_of_pos hpn] at hps
        simp only [hpn, if_true]
        refine ldVarK hn5 (v := .int n tn) (by simp) ?_ (by simp [compEnvC, relabel, hkind]) (lookup_relabel_local hxb) hdb
        refine append_at (hsz := by show ys.toArray.size ≤ sizeLine; rw [List.size_toArray]; exact Nat.le_trans (Nat.le_trans hyl (Nat.le_trans hi hlen)) (by decide)) hlst₄ fun h₅ hs₅ hD₅ => ?_
        refine ⟨vs.length + 1 - (i + 1), Nat.sub_lt_sub_left (Nat.lt_succ_of_lt hlt2) (Nat.lt_succ_self i), i + 1, h₅, tk', ys ++ [.int n tn], (fun z => if z = b then some (.int n tn) else m' z), hlt2, rfl, rfl, ?_, hn5.sameBut hs₅ (neN (by k_extra "ne")), hD₅.trans (congrArg some (lst_snoc ys _)), ?_, by rw [List.length_append]; exact Nat.succ_le_succ hyl, fun c o e => ?_⟩
        · refine W.frame (i + 1) _ _ hst₄ fun c hc o e1 => hs₅.extBut c o ?_ e1
          have hc' : @Eq Nat c I ∨ @Eq Nat c l := by simpa using hc
          rcases hc' with rfl | rfl <;> exact neN (by k_extra "ne")
        · rw [hps]; exact hys.append (.cons _ _ .nil)
        · have := hlt c o e
          exact hs₅.extBut _ _ (neN (by k_extra "ne")) (kk₄ c o e)
      · rw [List.filter_cons_of_neg hpn, List.filter_nil, List.append_nil] at hps
        rw [if_neg hpn]
        exact ⟨vs.length + 1 - (i + 1), Nat.sub_lt_sub_left (Nat.lt_succ_of_lt hlt2) (Nat.lt_succ_self i), i + 1, h₄, tk', ys, (fun z => if z = b then some (.int n tn) else m' z), hlt2, rfl, rfl, hst₄, hn5, hlst₄, by rw [hps]; exact hys, Nat.le_succ_of_le hyl, kk₄⟩
    · have hin : i = vs.length := Nat.le_antisymm hi (Nat.le_of_not_lt hlt2)
      subst hin
      refine W.done _ _ _ (by simpa using hst) fun h₁ tk₁ hk₁ => ?_
      have k₁ : ∀ (c : Addr) (o : Obj), c ≠ I → h.get? c = some o → h₁.get? c = some o := fun c o c1 e => hk₁ c o (by simp [c1]) e
      have kk₁ : ∀ (c : Addr) (o : Obj), s₁.heap.get? c = some o → h₁.get? c = some o := fun c o e => by
        have := hlt c o e
        exact k₁ c o (neN (by k_extra "ne")) (hkeep c o e)
      show wpAny _ A (assign (.Name y py) env (.ref (I + 1))) _ _ _
      have F1 : Fr h₀ env.locals h₁ m := F.keeps kk₁
      refine wpAny_assign_Name (wpAny_storeName_local hy F1.ns (fun h₂ hn₂ hs₂ => ?_) hp)
      refine ⟨m', (hns.at' fun o e => k₁ _ o (neN (by k_extra "ne")) e).sameBut hs₂ (neN (by k_extra "ne")), fun h₃' hs₃ => ?_⟩
      have up : ∀ (c : Addr) (o : Obj), c ≠ env.locals → c ≠ I + 1 + 1 → h₁.get? c = some o → h₃'.get? c = some o := fun c o c3 c4 e => hs₃.extBut c o c4 (hs₂.extBut c o c3 e)
      rw [← hvl, List.take_length] at hys
      refine hfin (I + 1) h₃' _ ys ⟨hn₂.sameBut hs₃ (neN (by k_extra "ne")), fun c o e => ?_, F.above⟩ (fun p hp => ?_) hys
      · have h1 := hlive c o e
        have h2 : c ≠ env.locals := Nat.ne_of_lt (Nat.lt_of_lt_of_le (Heap.lt_size e) F.above)
        exact up c o h2 (neN (by k_extra "ne")) (F1.keep c o e)
      · rcases List.mem_cons.mp hp with rfl | hp
        · exact ⟨up _ _ (neN (by k_extra "ne")) (neN (by k_extra "ne")) (k₁ _ _ (neN (by k_extra "ne")) hlst), neN (by k_extra "ne"), hD0⟩
        · have := hnI p hp
          exact ⟨up _ _ (N p hp).2.1 (neN (by k_extra "ne")) (kk₁ _ _ (N p hp).1), (N p hp).2⟩
  exact codeAny_compStart_list loop (W.self 0 _ _ _ (W.frame 0 _ _ hst0 (fun b _ o e => up₃ b o e)) loop)
end
end
section
open PySem PySem.W PySem.Spec PySem.Calls PyProof.Rows
/-- the signs of the figures, 64 for what fills -/
abbrev faceOf (al : Array UInt8) : Array UInt8 := #[65, 66, 67, 68, 69, 70, 71, 72, 73, 74, 75, 76, 77, 78, 79, 80, 81, 82, 83, 84, 85, 86, 87, 88, 89, 90, 97, 98, 99, 100, 101, 102, 103, 104, 105, 106, 107, 108, 109, 110, 111, 112, 113, 114, 115, 116, 117, 118, 119, 120, 121, 122, 48, 49, 50, 51, 52, 53, 54, 55, 56, 57] ++ al ++ #[61]
theorem told_list {W Z : List Int} {v : Value} {g h : Heap} (hT : ∀ zs, ToldSome W zs → zs = Z) (hN : ¬ ToldBad W) (e : (∃ zs, ToldSome W zs ∧ ListOut zs v g h) ∨ (ToldBad W ∧ v = .none)) : ListOut Z v g h := by
  rcases e with ⟨zs, h1, h2⟩ | ⟨h1, _⟩
  · rw [← hT zs h1]; exact h2
  · exact absurd h1 hN
theorem item_mem {prog : Program} {w : World} {A : Around} {E : Value → Shared → Prop} {s : Shared} {Q : Value → Shared → Prop} {i : Int} {t u : Tok} {value slice : PySem.Expr} {al : Array UInt8} {ds : List Int} (hm : i ∈ ds) (hds : ∀ n ∈ ds, 0 ≤ n ∧ n < 65) (hal : al.size = 2) (h : Q (.int (bget (faceOf al) i) s.toks) { s with toks := s.toks + 1 })
    (hs : subscripted slice false (.bytes (faceOf al) t) (.int i u) = operate [.bytes (faceOf al) t, .int i u] (getItem (.bytes (faceOf al) t) (.int i u)) := by with_unfolding_all rfl) : wpAny (model prog w) A (subscriptTail value slice (.bytes (faceOf al) t) (.int i u)) Q E s :=
  item_any (by simp [faceOf, hal]) (hds i hm).1 (by have := (hds i hm).2; simp [faceOf, hal]; omega) h hs
theorem fmod4 (n : Nat) : ((n : Int)).fmod 4 = ((n % 4 : Nat) : Int) := by rw [Int.fmod_eq_emod_of_nonneg _ (by omega)]; omega
theorem read_split {figs : List Int} {k : Nat} {os : List Int} {v : Value} {P : Prop} (hA : ABad figs k ↔ P) (ho : (dst figs).2.2 = os) (e : (ABad figs k ∧ v = .none) ∨ (¬ ABad figs k ∧ ∃ t', v = .bytes (byteArr (dst figs).2.2) t')) : (P ∧ v = .none) ∨ (¬ P ∧ ∃ t', v = .bytes (byteArr os) t') := by
  rw [hA, ho] at e; exact e
theorem news_cons {h₀ g h : Heap} {L D : Addr} {m m₀ : Str → Option Value} {vs : List Value} {n : Nat} {news : List (Addr × Obj)} (F0 : Fr h₀ L g m₀) (F : Fr h₀ L h m) (N : News h₀ L h news) (hD : h.get? D = some (listOf vs.toArray n)) (hg : g.get? D = none) : News h₀ L h ((D, listOf vs.toArray n) :: news) :=
  News.more F N hD (fun es k q => by cases q) (by cases q : h₀.get? D with | none => rfl | some o => have := F0.keep _ _ q; rw [hg] at this; cases this)
theorem told_none {W : List Int} {v : Value} {g h : Heap} (hT : ∀ zs, ¬ ToldSome W zs) (e : (∃ zs, ToldSome W zs ∧ ListOut zs v g h) ∨ (ToldBad W ∧ v = .none)) : v = .none := by
  rcases e with ⟨zs, h1, _⟩ | ⟨_, h2⟩
  · exact absurd h1 (hT zs)
  · exact h2
theorem due_any {h₀ g h : Heap} {L D : Addr} {m m₀ : Str → Option Value} {vs : List Value} {n : Nat} {ns ds : List Int} {v : Value} {rest : List (Addr × Obj)} (F0 : Fr h₀ L g m₀) (F : Fr h₀ L h m) (N : News h₀ L h ((D, listOf vs.toArray n) :: rest)) (li : IntsAre vs ns) (e : ListOut ds v g h ∨ (v = .ref D ∧ ds = ns)) :
    ∃ D' vs' n', v = .ref D' ∧ News h₀ L h ((D', listOf vs'.toArray n') :: (D, listOf vs.toArray n) :: rest) ∧ IntsAre vs' ds := by
  rcases e with ⟨D', vs', n', e1, e2, e3, e4⟩ | ⟨rfl, rfl⟩
  · exact ⟨D', vs', n', e1, news_cons F0 F N e2 e3, e4⟩
  · refine ⟨D, vs, n, rfl, fun p hp => ?_, li⟩
    rcases List.mem_cons.mp hp with rfl | hp
    · exact N _ (.head _)
    · exact N _ hp
set_option maxRecDepth 100000 in
set_option maxHeartbeats 400000 in
theorem holds_all (w : World) (x al : Array UInt8) (t u : Tok) (hx : x.size ≤ 9) (hal : al.size = 2) (ds : List Int) (ok : Prop) (hF65 : ∀ n ∈ shown (KBw.bInts x), 0 ≤ n ∧ n < 65) (hF12 : (shown (KBw.bInts x)).length ≤ 12) (hDue : ∀ l v g h', DueOut (faceOf al) (shown (KBw.bInts x)) l v g h' → (ok ∧ (ListOut ds v g h' ∨ (v = .ref l ∧ ds = shown (KBw.bInts x)))) ∨ (¬ ok ∧ v = .none)) (hTN : ¬ ok → ∀ zs, ¬ ToldSome (KBw.bInts (trOut (byteArr (bfin (bst (KBw.bInts x)))) (trTab #[43, 47] al))) zs) (hTold : ok → ∀ zs, ToldSome (KBw.bInts (trOut (byteArr (bfin (bst (KBw.bInts x)))) (trTab #[43, 47] al))) zs → zs = ds.map (bget (faceOf al))) (hNB : ok → ¬ ToldBad (KBw.bInts (trOut (byteArr (bfin (bst (KBw.bInts x)))) (trTab #[43, 47] al)))) (hds : ∀ n ∈ ds, 0 ≤ n ∧ n < 65) (hdl : ds.length ≤ 12) (dfigs : List Int) (kk : Nat) (hdf : ∀ f ∈ dfigs, 0 ≤ f ∧ f < 64) (hdfl : dfigs.length ≤ 12) (hkk : kk ≤ 4) (hkk2 : kk + 2 ≤ 4)
    (hx1 : KBw.bInts (byteArr (ds.map (bget (faceOf al)))) = dfigs.map code ++ List.replicate kk 61) (hx2 : KBw.bInts (byteArr (ds.map (bget (faceOf al))) ++ #[61, 61]) = dfigs.map code ++ List.replicate (kk + 2) 61) (hZin : KBa.In (ds.map (bget (faceOf al)))) (hZlen : (ds.map (bget (faceOf al))).length ≤ 16777216) (hs1 : true = true → kk = 0 ∨ (2 ≤ (dst dfigs).1 ∧ (dst dfigs).1 + kk ≤ 4))
    (hfil : ds.filter (fun n => decide (n < 64)) = dfigs) (hA1 : ABad dfigs kk ↔ 0 < ds.length % 4) (hA2 : ABad dfigs (kk + 2) ↔ dfigs.length % 4 = 1) (hoc : (dst dfigs).2.2 = octs dfigs) (hZadd : (byteArr (ds.map (bget (faceOf al)))).size + (#[61, 61] : Array UInt8).size ≤ 16777216) : ComesT w 10 141 [.bytes x t, .bytes al u] [] (fun _ => True) (fun v _ _ => v = .bool true) := by
  k_with_none
  k_with "MINE enter" => (
      w_on
      dsimp only [Comes, ComesE]
      k_fill
      intro mean mg mb dp un gd cn cs L a ccd cl outer base g gs dr tk os Q E XB TB B X T hL hk D hd hu hpre hret hexc
      refine wpAny_call ?_
      k_dflt (first
        | (refine' enter_plain ?k3 ?k5 ?k6 ?k7 ?k8 ?k9 ?kB ?_ ?c2 ?c3 ?c4 ?c5; (case k3 => k_asm); (case k5 => k_asm); (case k6 => k_is); (case k7 => k_is); (case k8 => first | exact room0 hd | exact room1 hd rfl | exact room2 hd rfl | exact room3 hd rfl | ktr_room); (case k9 => first | exact BindsTo.of_eq rfl | exact binds_K (by k_in) rfl (by k_is) rfl rfl rfl); (case c5 => decide); (case kB => exact locs rfl); (case c2 => exact rfl); (case c3 => exact rfl); (case c4 => exact rfl); k_whole; intro L' h' eL' F' N')
        | (refine' enter_cells ?k3 ?k5 ?k6 ?k7 ?k8 ?k9 ?kB ?kD ?_ ?c2 ?c3 ?c4; (case k3 => k_asm); (case k5 => k_asm); (case k6 => k_is); (case k7 => k_is); (case k8 => first | exact room0 hd | exact room1 hd rfl | exact room2 hd rfl | exact room3 hd rfl | ktr_room); (case k9 => first | exact BindsTo.of_eq rfl | exact binds_K (by k_in) rfl (by k_is) rfl rfl rfl); (case kB => exact rfl); (case kD => decide +kernel); (case c2 => exact rfl); (case c3 => exact rfl); (case c4 => exact rfl); k_whole; intro L' h' tk' cells' eL' F' N' Y'; k_cells Y'))
      (try dsimp only)
      (try k_fold))
  k_with "MINE enterT" => (
      w_on
      dsimp only [ComesT]
      k_fill
      intro mean mg mb dp un gd cn cs L a ccd cl outer base g gs dr tk os Q E XB TB B X T hL hk D hd hu hpre hret
      refine wpAny_call ?_
      k_dflt (first
        | (refine' enter_plain ?k3 ?k5 ?k6 ?k7 ?k8 ?k9 ?kB ?_ ?c2 ?c3 ?c4 ?c5; (case k3 => k_asm); (case k5 => k_asm); (case k6 => k_is); (case k7 => k_is); (case k8 => first | exact room0 hd | exact room1 hd rfl | exact room2 hd rfl | exact room3 hd rfl | ktr_room); (case k9 => first | exact BindsTo.of_eq rfl | exact binds_K (by k_in) rfl (by k_is) rfl rfl rfl); (case c5 => decide); (case kB => exact locs rfl); (case c2 => exact rfl); (case c3 => exact rfl); (case c4 => exact rfl); k_whole; intro L' h' eL' F' N')
        | (refine' enter_cells ?k3 ?k5 ?k6 ?k7 ?k8 ?k9 ?kB ?kD ?_ ?c2 ?c3 ?c4; (case k3 => k_asm); (case k5 => k_asm); (case k6 => k_is); (case k7 => k_is); (case k8 => first | exact room0 hd | exact room1 hd rfl | exact room2 hd rfl | exact room3 hd rfl | ktr_room); (case k9 => first | exact BindsTo.of_eq rfl | exact binds_K (by k_in) rfl (by k_is) rfl rfl rfl); (case kB => exact rfl); (case kD => decide +kernel); (case c2 => exact rfl); (case c3 => exact rfl); (case c4 => exact rfl); k_whole; intro L' h' tk' cells' eL' F' N' Y'; k_cells Y'))
      (try dsimp only)
      (try k_fold))
  k_with "call type:type" => ((with_reducible show wpAny _ _ (call _ [Value.bytes _ _]) _ _ _); refine call_type_of (Tx := "bytes") rfl (by decide +kernel) ?_)
  k_with "call builtin:list.append" => (k_here; (show wpAny _ _ (call (Value.builtin "list.append") [Value.ref _, _]) _ _ _); k_dflt (refine' append_K ?k1 ?k2 ?k3 ?_ ?z; (case k1 => k_asm); (case k2 => k_asm); (case k3 => k_upd); (case z => size_fits); k_whole); intro h' F' N'; (try simp only [List.push_toArray] at N'); (try k_sweep))
  k_with "binaryOp BitAnd int int" => ((with_reducible show wpAny _ _ (binaryOp _ (Value.int _ _) (Value.int 63 _)) _ _ _); refine and_63 ?_)
  k_with "binaryOp BitAnd int int" => ((with_reducible show wpAny _ _ (binaryOp _ (Value.int _ _) (Value.int 15 _)) _ _ _); refine and_15 ?_)
  k_with "binaryOp BitAnd int int" => ((with_reducible show wpAny _ _ (binaryOp _ (Value.int _ _) (Value.int 3 _)) _ _ _); refine and_3 ?_)
  k_with "binaryOp BitAnd int int" => ((with_reducible show wpAny _ _ (binaryOp _ (Value.int _ _) (Value.int 65535 _)) _ _ _); refine and_65535 ?_)
  k_with "binaryOp BitOr int int" => ((with_reducible show wpAny _ _ (binaryOp _ (Value.int (_ * 2 ^ _) _) (Value.int _ _)) _ _ _); refine or_low (by first | omega | (simp; omega)) (by first | omega | (simp; omega)) (by first | omega | (simp; omega)) ?_)
  k_with "subscriptTail" => ((with_reducible show wpAny _ _ (subscriptTail _ _ (Value.bytes _ _) (Value.int _ _)) _ _ _); refine item_any (by first | decide | omega | (simp; omega)) (by first | omega | (simp; omega)) (by first | omega | (simp; omega)) ?_)
  k_with "binaryOp Add bytes bytes" => ((with_reducible show wpAny _ _ (binaryOp Operator.Add (Value.bytes _ _) (Value.bytes _ _)) _ _ _); refine KBy.add_bytes (by first | assumption | (simp [*]; done) | (simp; omega)) ?_; intro _ _)
  k_with "call ref" => ((with_reducible show wpAny _ _ (call (Value.ref 119) [Value.bytes _ _]) _ _ _); k_dflt (refine' comes_use (shown_call _ _ (by assumption) _) ?k1 ?k2 ?k3 ?k4 ?k5 ?k6 ?kXB ?kTB ?kD ?k7 ?k8 ?k9 ?_; (case k1 => k_asm); (case k2 => k_asm); (case k3 => k_asm); (case k4 => k_asm); (case k5 => k_asm); (case kXB => assumption); (case kTB => assumption); (case kD => assumption); (case k6 => first | exact rfl | assumption); (case k7 => first | exact room0 hd | exact room1 hd rfl | exact room2 hd rfl | exact room3 hd rfl | ktr_room); (case k8 => first | exact room0 hu | exact room1 hu rfl | exact room2 hu rfl | exact room3 hu rfl | ktr_units); (case k9 => trivial); k_whole; (intro v' h' tk' hs' F' N' e'); (obtain ⟨lD, lvs, ln, le, lg, lf, li⟩ := e'); (subst le); (have N' := news_cons (by assumption) F' N' lg lf); (try dsimp only); (try k_sweep)))
  k_with "call ref" => ((with_reducible show wpAny _ _ (call (Value.ref 124) [Value.ref _, Value.bytes _ _]) _ _ _); k_dflt (refine' comes_use (due_call _ _ _ _ _ _ (by assumption) (by assumption) (by assumption) (by first | assumption | (simp [*]; done) | (simp; omega))) ?k1 ?k2 ?k3 ?k4 ?k5 ?k6 ?kXB ?kTB ?kD ?k7 ?k8 ?k9 ?_; (case k1 => k_asm); (case k2 => k_asm); (case k3 => k_asm); (case k4 => k_asm); (case k5 => k_asm); (case kXB => assumption); (case kTB => assumption); (case kD => assumption); (case k6 => first | exact rfl | assumption); (case k7 => first | exact room0 hd | exact room1 hd rfl | exact room2 hd rfl | exact room3 hd rfl | ktr_room); (case k8 => first | exact room0 hu | exact room1 hu rfl | exact room2 hu rfl | exact room3 hu rfl | ktr_units); (case k9 => (exact News.isList (by assumption) (by k_mem))); k_whole; (intro v' h' tk' hs' F' N' e'); (replace e' := hDue _ _ _ _ e'); (rcases e' with ⟨hok, e'⟩ | ⟨hok, rfl⟩); (all_goals (try ((have dd := due_any (by assumption) F' N' li e'); (obtain ⟨dD, dvs, dn, de, Nd, di⟩ := dd); (subst de); (clear N' e')))); all_goals skip; (try dsimp only); (try k_sweep)))
  k_with "call ref" => ((with_reducible show wpAny _ _ (call (Value.ref 101) [Value.bytes _ _, Value.bytes _ _]) _ _ _); k_dflt (refine' comes_use (enc_call _ _ _ (by omega) (by assumption) _ _) ?k1 ?k2 ?k3 ?k4 ?k5 ?k6 ?kXB ?kTB ?kD ?k7 ?k8 ?k9 ?_; (case k1 => k_asm); (case k2 => k_asm); (case k3 => k_asm); (case k4 => k_asm); (case k5 => k_asm); (case kXB => assumption); (case kTB => assumption); (case kD => assumption); (case k6 => first | exact rfl | assumption); (case k7 => first | exact room0 hd | exact room1 hd rfl | exact room2 hd rfl | exact room3 hd rfl | ktr_room); (case k8 => first | exact room0 hu | exact room1 hu rfl | exact room2 hu rfl | exact room3 hu rfl | ktr_units); (case k9 => trivial); k_whole; (intro v' h' tk' hs' F' N' e'); (obtain ⟨t', e'⟩ := e'); (subst e'); (try dsimp only); (try k_sweep)))
  k_with "call ref" => ((with_reducible show wpAny _ _ (call (Value.ref 129) [Value.bytes _ _]) _ _ _); k_dflt (refine' comesT_use (told_call _ _ _) ?k1 ?k2 ?k3 ?k4 ?k5 ?k6 ?kXB ?kTB ?kD ?k7 ?k8 ?k9 ?_; (case k1 => k_asm); (case k2 => k_asm); (case k3 => k_asm); (case k4 => k_asm); (case k5 => k_asm); (case kXB => assumption); (case kTB => assumption); (case kD => assumption); (case k6 => first | exact rfl | assumption); (case k7 => first | exact room0 hd | exact room1 hd rfl | exact room2 hd rfl | exact room3 hd rfl | ktr_room); (case k8 => first | exact room0 hu | exact room1 hu rfl | exact room2 hu rfl | exact room3 hu rfl | ktr_units); (case k9 => trivial); k_whole; (intro v' h₀' g' h' tk' gs' TT' F' N' B' X' P' D' hb' hn' e'); (first | ((replace e' := told_list (hTold hok) (hNB hok) e'); (obtain ⟨tD, tvs, tn, te, tg, tf, ti⟩ := e'); (subst te); (have N' := News.more F' N' tg (fun es k q => by cases q) (hn' _ tf))) | ((replace e' := told_none (hTN hok) e'); (subst e'))); (all_goals (try dsimp only))))
  k_with "call ref" => ((with_reducible show wpAny _ _ (call (Value.ref 114) [Value.ref _]) _ _ _); k_dflt (refine' comes_use (oct_call _ _ _ _ (by assumption) (by assumption) (by assumption)) ?k1 ?k2 ?k3 ?k4 ?k5 ?k6 ?kXB ?kTB ?kD ?k7 ?k8 ?k9 ?_; (case k1 => k_asm); (case k2 => k_asm); (case k3 => k_asm); (case k4 => k_asm); (case k5 => k_asm); (case kXB => assumption); (case kTB => assumption); (case kD => assumption); (case k6 => first | exact rfl | assumption); (case k7 => first | exact room0 hd | exact room1 hd rfl | exact room2 hd rfl | exact room3 hd rfl | ktr_room); (case k8 => first | exact room0 hu | exact room1 hu rfl | exact room2 hu rfl | exact room3 hu rfl | ktr_units); (case k9 => (exact News.isList (by assumption) (by k_mem))); k_whole; (intro v' h' tk' hs' F' N' e'); (obtain ⟨t', e'⟩ := e'); (subst e'); (try dsimp only); (try k_sweep)))
  k_with "call ref" => ((with_reducible show wpAny _ _ (call (Value.ref 136) [Value.bytes _ _, Value.bool true]) _ _ _); k_dflt (refine' comesT_use (read_call _ _ dfigs kk hdf hx1 hdfl hkk _ true hs1) ?k1 ?k2 ?k3 ?k4 ?k5 ?k6 ?kXB ?kTB ?kD ?k7 ?k8 ?k9 ?_; (case k1 => k_asm); (case k2 => k_asm); (case k3 => k_asm); (case k4 => k_asm); (case k5 => k_asm); (case kXB => assumption); (case kTB => assumption); (case kD => assumption); (case k6 => first | exact rfl | assumption); (case k7 => first | exact room0 hd | exact room1 hd rfl | exact room2 hd rfl | exact room3 hd rfl | ktr_room); (case k8 => first | exact room0 hu | exact room1 hu rfl | exact room2 hu rfl | exact room3 hu rfl | ktr_units); (case k9 => trivial); k_whole; (intro v' h₀' g' h' tk' gs' TT' F' N' B' X' P' D' hb' hn' e'); (replace e' := read_split hA1 hoc e'); (rcases e' with ⟨ep1, rfl⟩ | ⟨ep1, rt1, rfl⟩); (all_goals (try dsimp only))))
  k_with "call ref" => ((with_reducible show wpAny _ _ (call (Value.ref 136) [Value.bytes _ _, Value.bool false]) _ _ _); k_dflt (refine' comesT_use (read_call _ _ dfigs (kk + 2) hdf hx2 hdfl hkk2 _ false (by intro q; cases q)) ?k1 ?k2 ?k3 ?k4 ?k5 ?k6 ?kXB ?kTB ?kD ?k7 ?k8 ?k9 ?_; (case k1 => k_asm); (case k2 => k_asm); (case k3 => k_asm); (case k4 => k_asm); (case k5 => k_asm); (case kXB => assumption); (case kTB => assumption); (case kD => assumption); (case k6 => first | exact rfl | assumption); (case k7 => first | exact room0 hd | exact room1 hd rfl | exact room2 hd rfl | exact room3 hd rfl | ktr_room); (case k8 => first | exact room0 hu | exact room1 hu rfl | exact room2 hu rfl | exact room3 hu rfl | ktr_units); (case k9 => trivial); k_whole; (intro v' h₀' g' h' tk' gs' TT' F' N' B' X' P' D' hb' hn' e'); (replace e' := read_split hA2 hoc e'); (rcases e' with ⟨ep2, rfl⟩ | ⟨ep2, rt2, rfl⟩); (all_goals (try dsimp only))))
  k_with "call type:bytes" => (k_here; (with_reducible show wpAny _ _ (call (Value.type "bytes") [Value.ref _]) _ _ _); k_dflt (refine' KBa.make_K ?kbaF ?kbaN ?kbah ?kbal ?kbai ?kbar ?kban ?_; (case kbaF => k_asm); (case kbaN => k_asm); (case kbah => rfl); (case kbal => kba_isList); (case kbai => exact ti); (case kbar => exact hZin); (case kban => exact hZlen)); intro _ _ _ F' N' kbaIn)
  k_with "exec Assign cons ListComp" => (k_here; k_dflt (refine' filt_comp (fun n => decide (n < 64)) ?F ?N ?a ?b ?c ?d ?e ?f ?g ?h ?i ?j ?_ ?k; (case F => k_asm); (case N => k_asm); (case a => rfl); (case b => with_unfolding_all rfl); (case c => with_unfolding_all rfl); (case d => decide); (case e => rfl); (case f => decide); (case g => rfl); (case h => decide); (case i => rfl); (case j => rfl); (case k => (intro _; rfl))))
  k_with "subscriptTail" => ((with_reducible show wpAny _ _ (subscriptTail _ _ (Value.bytes _ _) (Value.int _ _)) _ _ _); refine item_mem (by assumption) (by assumption) (by assumption) ?_)
  walk_at "MINE enterT"
  k_steps
  all_goals first
    | (refine' hret _ _ _ _ _ ?kmt (Fr.keep ?kmf) ?kb ?kr; (case kmf => k_asm); (case kmt => assumption); (case kb => solve_by_elim); (case kr => first | rfl | simp); done)
    | skip
  refine ⟨dD, dvs, ds, rfl, News.isList (by assumption) (by k_mem), di, by rw [IntsAre.length di]; omega, by assumption, by assumption, ?_, ?_⟩
  · intro C oC m₂ h tk E' n t' Fh Nh hC hb hmem
    k_steps
  · intro D h tk ys Fh Nh hys
    rw [hfil] at hys
    show wpAny _ _ (execs _ _) _ _ _
    (try k_fold)
    k_steps
    all_goals (try (exfalso; rename ((_ != _) = true) => hq; simp at hq; done))
    all_goals (try (exfalso; have h4 := fmod4 dfigs.length; omega))
    all_goals (refine' hret _ _ _ _ _ ?kmt (Fr.keep ?kmf) ?kb ?kr; (case kmf => k_asm); (case kmt => exact KtsTurn.trans (KtsTurn.trans (by assumption) (by assumption)) (by assumption)); (case kb => solve_by_elim); (case kr => first | rfl | simp))
end
section
open PySem PySem.W PySem.Spec PySem.Calls PyProof.Rows
/-- the four pairs of signs -/
def IsAlt (al : Array UInt8) : Prop := al = byteArr [0, 127] ∨ al = byteArr [127, 0] ∨ al = byteArr [0, 0] ∨ al = byteArr [127, 127]
/-- a sign of the writing, translated -/
def trSign (al : Array UInt8) (c : Int) : Int := (((trTab #[43, 47] al).getD (c.toNat.toUInt8).toNat (c.toNat.toUInt8)).toNat : Int)
theorem trTab_at (al : Array UInt8) (a b : UInt8) (h : al = #[a, b]) (c : UInt8) : (trTab #[43, 47] al).getD c.toNat c = if c = 47 then b else if c = 43 then a else c := by
  subst h
  have hc : c.toNat < 256 := c.toNat_lt
  have g : ∀ t : Array UInt8, ([((43 : UInt8), a), (47, b)].foldl (fun t (p : UInt8 × UInt8) => t.setIfInBounds p.1.toNat p.2) t) = (t.setIfInBounds 43 a).setIfInBounds 47 b := fun _ => rfl
  have e : trTab #[43, 47] #[a, b] = (((Array.range 256).map (·.toUInt8)).setIfInBounds 43 a).setIfInBounds 47 b := by unfold trTab; exact g _
  have h47 : (c = 47) = (47 = c.toNat) := propext ⟨fun h => by rw [h]; rfl, fun h => UInt8.toNat_inj.mp h.symm⟩
  have h43 : (c = 43) = (43 = c.toNat) := propext ⟨fun h => by rw [h]; rfl, fun h => UInt8.toNat_inj.mp h.symm⟩
  rw [e, Array.getD_eq_getD_getElem?, Array.getElem?_setIfInBounds, Array.getElem?_setIfInBounds]
  simp only [h47, h43, Array.size_setIfInBounds, Array.size_map, Array.size_range]
  by_cases q : 47 = c.toNat
  · simp [q, hc]
  · by_cases q2 : 43 = c.toNat
    · simp [q, q2, hc]
    · simp [q, q2, hc]
theorem trSign_at (x y : Int) (c : Int) : trSign (byteArr [x, y]) c = ((if c.toNat.toUInt8 = 47 then y.toNat.toUInt8 else if c.toNat.toUInt8 = 43 then x.toNat.toUInt8 else c.toNat.toUInt8).toNat : Int) := by
  unfold trSign; rw [trTab_at (byteArr [x, y]) x.toNat.toUInt8 y.toNat.toUInt8 rfl]
theorem trOut_ints (ns : List Int) (al : Array UInt8) : KBw.bInts (trOut (byteArr ns) (trTab #[43, 47] al)) = ns.map (trSign al) := by
  simp [KBw.bInts, trOut, byteArr, trSign, List.map_map]
set_option maxRecDepth 100000 in
theorem face_fin {al : Array UInt8} (h : IsAlt al) : (∀ f : Fin 64, trSign al (code ((f.val : Nat) : Int)) = bget (faceOf al) ((f.val : Nat) : Int)) ∧ trSign al 61 = 61 ∧ bget (faceOf al) 64 = 61 ∧
    (∀ f : Fin 62, bget (faceOf al) ((f.val : Nat) : Int) = code ((f.val : Nat) : Int) ∧ stopPz (faceOf al) ((f.val : Nat) : Int) = false) ∧ stopPz (faceOf al) 62 = true ∧ stopPz (faceOf al) 63 = true ∧ stopPz (faceOf al) 64 = false := by
  rcases h with rfl | rfl | rfl | rfl
  all_goals (simp only [trSign_at]; decide +kernel)
theorem face_tr {al : Array UInt8} (h : IsAlt al) {f : Int} (h0 : 0 ≤ f) (h1 : f < 64) : trSign al (code f) = bget (faceOf al) f := by
  have := (face_fin h).1 ⟨f.toNat, (Int.toNat_lt h0).mpr h1⟩
  rwa [show (((⟨f.toNat, (Int.toNat_lt h0).mpr h1⟩ : Fin 64).val : Nat) : Int) = f from Int.toNat_of_nonneg h0] at this
theorem face_low {al : Array UInt8} (h : IsAlt al) {f : Int} (h0 : 0 ≤ f) (h1 : f < 62) : bget (faceOf al) f = code f ∧ stopPz (faceOf al) f = false := by
  have := (face_fin h).2.2.2.1 ⟨f.toNat, (Int.toNat_lt h0).mpr h1⟩
  rwa [show (((⟨f.toNat, (Int.toNat_lt h0).mpr h1⟩ : Fin 62).val : Nat) : Int) = f from Int.toNat_of_nonneg h0] at this
theorem face_64 {al : Array UInt8} (h : IsAlt al) : bget (faceOf al) 64 = 61 := (face_fin h).2.2.1
theorem not_stop {al : Array UInt8} (h : IsAlt al) {f : Int} (h0 : 0 ≤ f) (h1 : f < 64) (hs : stopPz (faceOf al) f = false) : f < 62 := by
  obtain ⟨_, _, _, _, h62, h63, _⟩ := face_fin h
  rcases Int.lt_or_le f 62 with hl | hl
  · exact hl
  · rcases Int.lt_or_le f 63 with h3 | h3
    · rw [show f = 62 from Int.le_antisymm (Int.le_of_lt_add_one h3) hl, h62] at hs; cases hs
    · rw [show f = 63 from Int.le_antisymm (Int.le_of_lt_add_one h1) h3, h63] at hs; cases hs
theorem IsAlt.size {al : Array UInt8} (h : IsAlt al) : al.size = 2 := by rcases h with rfl | rfl | rfl | rfl <;> rfl
/-- the writing is the shown figures' faces -/
theorem writing_eq {bs : List Int} (hb : ∀ n ∈ bs, 0 ≤ n ∧ n < 256) {al : Array UInt8} (h : IsAlt al) :
    KBw.bInts (trOut (byteArr (bfin (bst bs))) (trTab #[43, 47] al)) = (shown bs).map (bget (faceOf al)) := by
  rw [trOut_ints, bfin_eq hb, shown_eq hb, List.map_append, List.map_append, List.map_map, List.map_replicate, List.map_replicate, face_64 h, (face_fin h).2.1]
  congr 1
  refine List.map_congr_left fun f hf => ?_
  have := dig_in (b := 64) (by decide) _ _ f hf
  exact face_tr h this.1 this.2
theorem stop_iff (fc : Array UInt8) (f : Int) : isStop (bget fc f) = stopPz fc f := by
  unfold isStop stopPz
  simp only [List.any_cons, List.any_nil, Bool.or_false]
  rw [show ((0 : Int) == bget fc f) = (bget fc f == 0) from Bool.eq_iff_iff.mpr (by simp only [beq_iff_eq]; exact eq_comm), show ((127 : Int) == bget fc f) = (bget fc f == 127) from Bool.eq_iff_iff.mpr (by simp only [beq_iff_eq]; exact eq_comm), Bool.or_comm]
theorem picks_nil {pz : Int → Bool} {ns : List Int} (h : picksTo pz ns ns.length = []) : ∀ k, k < ns.length → pz (ns.getD k 0) = false := by
  intro k hk
  have h1 := List.map_eq_nil_iff.mp h
  have h2 := List.filter_eq_nil_iff.mp h1 k (List.mem_range.mpr hk)
  exact Bool.eq_false_iff.mpr h2
theorem picks_cons {pz : Int → Bool} {ns rest : List Int} {q : Int} (h : picksTo pz ns ns.length = q :: rest) : ∃ k, k < ns.length ∧ q = (k : Int) ∧ pz (ns.getD k 0) = true ∧ ∀ j, j < k → pz (ns.getD j 0) = false := by
  unfold picksTo at h
  cases hf : (List.range ns.length).filter (fun k => pz (ns.getD k 0)) with
  | nil => rw [hf] at h; cases h
  | cons k r =>
    rw [hf] at h
    have hq : q = (k : Int) := by cases h; rfl
    have h2 : ((List.range ns.length).filter (fun k => pz (ns.getD k 0))).head? = some k := by rw [hf]; rfl
    rw [List.head?_filter, List.find?_range_eq_some] at h2
    obtain ⟨h3, h4, h5⟩ := h2
    exact ⟨k, List.mem_range.mp h4, hq, h3, fun j hj => by simpa using h5 j hj⟩
theorem plain_of {fc : Array UInt8} {F : List Int} {k : Nat} (hk : k ≤ F.length) (h : ∀ j, j < k → stopPz fc (F.getD j 0) = false) : Plain (F.map (bget fc)) k := by
  intro j hj
  have hlt : j < F.length := Nat.lt_of_lt_of_le hj hk
  refine ⟨bget fc F[j], by rw [List.getElem?_map, List.getElem?_eq_getElem hlt]; rfl, ?_⟩
  have := h j hj
  rw [List.getD_eq_getElem?_getD, List.getElem?_eq_getElem hlt] at this
  rw [stop_iff]; exact this
theorem told_unique {W zs zs' : List Int} (h : ToldSome W zs) (h' : ToldSome W zs') : zs = zs' := by
  have hlen : zs.length = zs'.length := by
    rcases Nat.lt_trichotomy zs.length zs'.length with hl | hl | hl
    · have h1 := h'.1 _ hl
      rcases h.2 with h2 | ⟨_, h2⟩
      · rcases h'.2 with h3 | ⟨h3, _⟩ <;> omega
      · rw [h2] at h1; cases h1
    · exact hl
    · have h1 := h.1 _ hl
      rcases h'.2 with h2 | ⟨_, h2⟩
      · rcases h.2 with h3 | ⟨h3, _⟩ <;> omega
      · rw [h2] at h1; cases h1
  refine List.ext_getElem hlen fun i h1 h2 => ?_
  have e1 := h.1 i h1
  have e2 := h'.1 i h2
  rw [e1] at e2
  rw [List.getD_eq_getElem?_getD, List.getElem?_eq_getElem h1, List.getD_eq_getElem?_getD, List.getElem?_eq_getElem h2] at e2
  exact GRes.val.inj e2
theorem bad_zero {W : List Int} {i : Nat} (h : gnext W i = .bad) : gnext W 0 = .bad := by
  unfold gnext at h ⊢
  split at h
  · cases h
  · rename_i hi
    split at h
    · cases h
    · rename_i b hb
      split at h
      · cases h
      · rename_i h127
        split at h
        · rename_i h0
          rw [if_neg (by omega)]
          rw [if_neg h127, if_pos h0]
        · cases h
theorem told_not_bad {W zs : List Int} (h : ToldSome W zs) : ¬ ToldBad W := by
  rintro ⟨i, _, hb⟩
  have h0 := bad_zero hb
  rcases Nat.eq_zero_or_pos zs.length with hz | hz
  · rcases h.2 with h2 | ⟨_, h2⟩
    · omega
    · rw [hz, h0] at h2; cases h2
  · have := h.1 0 hz
    rw [h0] at this; cases this
end
section
open PySem PySem.W PySem.Spec PySem.Calls PyProof.Rows
/-- the shape of what is told: figures below 62, then what fills -/
def Shape (ds dfigs : List Int) (kk : Nat) : Prop :=
  ds = dfigs ++ List.replicate kk 64 ∧ (∀ f ∈ dfigs, 0 ≤ f ∧ f < 62) ∧ ds.length ≤ 12 ∧ (kk = 0 ∨ (kk ≤ 2 ∧ dfigs.length % 4 + kk = 4))
theorem Shape.lo {ds dfigs : List Int} {kk : Nat} (S : Shape ds dfigs kk) : ∀ f ∈ dfigs, 0 ≤ f ∧ f < 64 := fun f hf => ⟨(S.2.1 f hf).1, Int.lt_trans (S.2.1 f hf).2 (by decide)⟩
theorem Shape.face {ds dfigs : List Int} {kk : Nat} (S : Shape ds dfigs kk) {al : Array UInt8} (h : IsAlt al) : ds.map (bget (faceOf al)) = dfigs.map code ++ List.replicate kk 61 := by
  rw [S.1, List.map_append, List.map_replicate, face_64 h]
  congr 1
  exact List.map_congr_left fun f hf => (face_low h (S.2.1 f hf).1 (S.2.1 f hf).2).1
theorem Shape.ins {ds dfigs : List Int} {kk : Nat} (S : Shape ds dfigs kk) (al : Array UInt8) : KBa.In (ds.map (bget (faceOf al))) := by
  intro n hn
  obtain ⟨f, _, rfl⟩ := List.mem_map.mp hn
  exact bget_in _ _
theorem Shape.len {ds dfigs : List Int} {kk : Nat} (S : Shape ds dfigs kk) : ds.length = dfigs.length + kk := by rw [S.1]; simp
theorem Shape.x1 {ds dfigs : List Int} {kk : Nat} (S : Shape ds dfigs kk) {al : Array UInt8} (h : IsAlt al) : KBw.bInts (byteArr (ds.map (bget (faceOf al)))) = dfigs.map code ++ List.replicate kk 61 := by
  rw [KBa.ints_make (S.ins al), S.face h]
theorem Shape.x2 {ds dfigs : List Int} {kk : Nat} (S : Shape ds dfigs kk) {al : Array UInt8} (h : IsAlt al) : KBw.bInts (byteArr (ds.map (bget (faceOf al))) ++ #[61, 61]) = dfigs.map code ++ List.replicate (kk + 2) 61 := by
  rw [KBw.ints_app (S.x1 h) (show KBw.bInts #[61, 61] = [61, 61] from rfl), List.append_assoc]
  congr 1
  rw [show ([61, 61] : List Int) = List.replicate 2 61 from rfl, List.replicate_append_replicate]
theorem Shape.s1 {ds dfigs : List Int} {kk : Nat} (S : Shape ds dfigs kk) : kk = 0 ∨ (2 ≤ (dst dfigs).1 ∧ (dst dfigs).1 + kk ≤ 4) := by
  rw [dst_place S.lo]
  rcases S.2.2.2 with h | ⟨h1, h2⟩
  · exact .inl h
  · exact .inr ⟨Int.ofNat_le.mpr (Nat.le_of_add_le_add_right (b := kk) (by rw [h2]; exact Nat.add_le_add_left h1 2)), Int.ofNat_le.mpr (Nat.le_of_eq h2)⟩
theorem Shape.fil {ds dfigs : List Int} {kk : Nat} (S : Shape ds dfigs kk) : ds.filter (fun n => decide (n < 64)) = dfigs := by
  rw [S.1, List.filter_append, List.filter_eq_self.mpr (fun f hf => decide_eq_true (Int.lt_trans (S.2.1 f hf).2 (by decide))), List.filter_eq_nil_iff.mpr (fun f hf => by rw [List.eq_of_mem_replicate hf]; decide), List.append_nil]
theorem bad_tab : ∀ r : Fin 4, ∀ k : Fin 3, (k.val = 0 ∨ r.val + k.val = 4) → ((((r.val : Nat) : Int) = 1 ∨ (((r.val : Nat) : Int) ≠ 0 ∧ ((r.val : Nat) : Int) + ((k.val : Nat) : Int) < 4)) ↔ 0 < (r.val + k.val) % 4) := by decide
theorem bad_tab2 : ∀ r : Fin 4, ∀ k : Fin 3, ((((r.val : Nat) : Int) = 1 ∨ (((r.val : Nat) : Int) ≠ 0 ∧ ((r.val : Nat) : Int) + ((k.val + 2 : Nat) : Int) < 4)) ↔ r.val = 1) := by decide
theorem Shape.small {ds dfigs : List Int} {kk : Nat} (S : Shape ds dfigs kk) : kk < 3 ∧ (kk = 0 ∨ dfigs.length % 4 + kk = 4) := by
  rcases S.2.2.2 with h | ⟨h1, h2⟩
  · exact ⟨h ▸ (by decide), .inl h⟩
  · exact ⟨Nat.lt_succ_of_le h1, .inr h2⟩
theorem Shape.a1 {ds dfigs : List Int} {kk : Nat} (S : Shape ds dfigs kk) : ABad dfigs kk ↔ 0 < ds.length % 4 := by
  unfold ABad
  rw [dst_place S.lo, S.len, ← Nat.mod_add_mod]
  exact bad_tab ⟨_, Nat.mod_lt _ (by decide)⟩ ⟨kk, S.small.1⟩ S.small.2
theorem Shape.a2 {ds dfigs : List Int} {kk : Nat} (S : Shape ds dfigs kk) : ABad dfigs (kk + 2) ↔ dfigs.length % 4 = 1 := by
  unfold ABad
  rw [dst_place S.lo]
  exact bad_tab2 ⟨_, Nat.mod_lt _ (by decide)⟩ ⟨kk, S.small.1⟩
theorem Shape.in65 {ds dfigs : List Int} {kk : Nat} (S : Shape ds dfigs kk) : ∀ n ∈ ds, 0 ≤ n ∧ n < 65 := by
  intro n hn
  rw [S.1] at hn
  rcases List.mem_append.mp hn with hn | hn
  · exact ⟨(S.2.1 n hn).1, Int.lt_trans (S.2.1 n hn).2 (by decide)⟩
  · rw [List.eq_of_mem_replicate hn]; decide
theorem holds_ok (w : World) (x al : Array UInt8) (t u : Tok) (hx : x.size ≤ 9) (h : IsAlt al) (ds dfigs : List Int) (kk : Nat) (ok : Prop) (S : Shape ds dfigs kk) (hF65 : ∀ n ∈ shown (KBw.bInts x), 0 ≤ n ∧ n < 65) (hF12 : (shown (KBw.bInts x)).length ≤ 12) (hDue : ∀ l v g h', DueOut (faceOf al) (shown (KBw.bInts x)) l v g h' → (ok ∧ (ListOut ds v g h' ∨ (v = .ref l ∧ ds = shown (KBw.bInts x)))) ∨ (¬ ok ∧ v = .none))
    (hT : ok → ToldSome ((shown (KBw.bInts x)).map (bget (faceOf al))) (ds.map (bget (faceOf al)))) (hTN : ¬ ok → ∀ zs, ¬ ToldSome ((shown (KBw.bInts x)).map (bget (faceOf al))) zs) (hW : KBw.bInts (trOut (byteArr (bfin (bst (KBw.bInts x)))) (trTab #[43, 47] al)) = (shown (KBw.bInts x)).map (bget (faceOf al))) : ComesT w 10 141 [.bytes x t, .bytes al u] [] (fun _ => True) (fun v _ _ => v = .bool true) := by
  have hk := S.small.1
  have hl : dfigs.length + kk ≤ 12 := S.len ▸ S.2.2.1
  exact holds_all w x al t u hx h.size ds ok hF65 hF12 hDue (by rw [hW]; exact hTN) (fun q zs hz => told_unique (by rwa [hW] at hz) (hT q)) (fun q => by rw [hW]; exact told_not_bad (hT q)) S.in65 S.2.2.1 dfigs kk S.lo (Nat.le_trans (Nat.le_add_right _ _) hl) (Nat.le_trans (Nat.le_of_lt_succ hk) (by decide)) (Nat.add_le_add_right (Nat.le_of_lt_succ hk) 2) (S.x1 h) (S.x2 h) (S.ins al) (by rw [List.length_map]; exact Nat.le_trans S.2.2.1 (by decide)) (fun _ => S.s1) S.fil S.a1 S.a2 (octs_dst S.lo).symm (by rw [byteArr_size, List.length_map]; exact Nat.le_trans (Nat.add_le_add_right S.2.2.1 2) (by decide))
theorem plain_next {W : List Int} {k j : Nat} (h : Plain W k) (hj : j < k) : gnext W j = .val (W.getD j 0) := by
  obtain ⟨b, hb, hs⟩ := h j hj
  rw [List.getD_eq_getElem?_getD, hb]
  have h1 : b ≠ 127 := fun e => by subst e; cases hs
  have h2 : b ≠ 0 := fun e => by subst e; cases hs
  exact gnext_val (fun i hi => h i (Nat.lt_trans hi hj)) hb h1 h2
theorem shape_low {ds : List Int} (h : ∀ f ∈ ds, 0 ≤ f ∧ f < 62) (hl : ds.length ≤ 12) : Shape ds ds 0 := ⟨by simp, h, hl, .inl rfl⟩
theorem due_cases {al : Array UInt8} (h : IsAlt al) (F figs : List Int) (pads : Nat) (hF : F = figs ++ List.replicate pads 64) (hgi : ∀ f ∈ figs, 0 ≤ f ∧ f < 64) (hl : F.length ≤ 12) (hpp : pads = 0 ∨ (pads ≤ 2 ∧ figs.length % 4 + pads = 4)) :
    (Shape F figs pads ∧ (∀ l v g h', DueOut (faceOf al) F l v g h' → v = .ref l) ∧ ToldSome (F.map (bget (faceOf al))) (F.map (bget (faceOf al)))) ∨
    (∃ ds, Shape ds ds 0 ∧ (∀ l v g h', DueOut (faceOf al) F l v g h' → ListOut ds v g h') ∧ ToldSome (F.map (bget (faceOf al))) (ds.map (bget (faceOf al)))) ∨
    ((∀ l v g h', DueOut (faceOf al) F l v g h' → v = .none) ∧ gnext (F.map (bget (faceOf al))) 0 = .bad) := by
  have hFl : F.length = figs.length + pads := by rw [hF]; simp
  have hgetL : ∀ j, j < figs.length → F.getD j 0 ∈ figs := by
    intro j hj
    rw [hF, List.getD_eq_getElem?_getD, List.getElem?_append_left hj, List.getElem?_eq_getElem hj]
    exact List.getElem_mem hj
  cases hp : picksTo (stopPz (faceOf al)) F F.length with
  | nil =>
    have hn := picks_nil hp
    have hpl : Plain (F.map (bget (faceOf al))) F.length := plain_of (Nat.le_refl _) hn
    refine .inl ⟨⟨hF, ?_, hl, hpp⟩, ?_, ?_⟩
    · intro f hf
      obtain ⟨j, hj, e⟩ := List.getElem_of_mem hf
      have h1 := hn j (Nat.lt_of_lt_of_le hj (hFl ▸ Nat.le_add_right _ _))
      have h2 := hgi f hf
      have e2 : F.getD j 0 = f := by rw [hF, List.getD_eq_getElem?_getD, List.getElem?_append_left hj, List.getElem?_eq_getElem hj]; exact e
      rw [e2] at h1
      exact ⟨h2.1, not_stop h h2.1 h2.2 h1⟩
    · intro l v g h' hd
      unfold DueOut at hd
      rw [hp] at hd
      exact hd
    · refine ⟨fun k hk => plain_next hpl (by rwa [List.length_map] at hk), ?_⟩
      rw [List.length_map]
      rcases Nat.lt_or_ge F.length 12 with hlt | hge
      · exact .inr ⟨hlt, gnext_end hpl (by rw [List.getElem?_eq_none_iff, List.length_map]; exact Nat.le_refl _)⟩
      · exact .inl (Nat.le_antisymm hl hge)
  | cons q rest =>
    obtain ⟨k, hk, hq, hst, hbef⟩ := picks_cons hp
    have hkg : k < figs.length := by
      rcases Nat.lt_or_ge k figs.length with hlt | hge
      · exact hlt
      · have e : F.getD k 0 = 64 := by
          rw [hF, List.getD_eq_getElem?_getD, List.getElem?_append_right hge, List.getElem?_replicate, if_pos (Nat.sub_lt_left_of_lt_add hge (hFl ▸ hk))]; rfl
        rw [e, (face_fin h).2.2.2.2.2.2] at hst
        cases hst
    have hpl : Plain (F.map (bget (faceOf al))) k := plain_of (Nat.le_of_lt hk) hbef
    have htk : F.take k = figs.take k := by rw [hF, List.take_append_of_le_length (Nat.le_of_lt hkg)]
    have hlow : ∀ f ∈ F.take k, 0 ≤ f ∧ f < 62 := by
      intro f hf
      obtain ⟨j, hj, e⟩ := List.getElem_of_mem hf
      rw [List.length_take] at hj
      have hjF := Nat.lt_of_lt_of_le hj (Nat.min_le_right _ _)
      have hjk := Nat.lt_of_lt_of_le hj (Nat.min_le_left _ _)
      have e2 : F.getD j 0 = f := by rw [List.getElem_take] at e; rw [List.getD_eq_getElem?_getD, List.getElem?_eq_getElem hjF]; exact e
      have h1 := hbef j hjk
      have h2 := hgi f (by rw [← e2]; exact hgetL j (Nat.lt_trans hjk hkg))
      rw [e2] at h1
      exact ⟨h2.1, not_stop h h2.1 h2.2 h1⟩
    have htl : (F.take k).length = k := by rw [List.length_take]; exact Nat.min_eq_left (Nat.le_of_lt hk)
    have hWk : (F.map (bget (faceOf al)))[k]? = some (bget (faceOf al) (F.getD k 0)) := by
      rw [List.getElem?_map, List.getD_eq_getElem?_getD, List.getElem?_eq_getElem hk]; rfl
    have hqk : q.toNat = k := by rw [hq]; exact Int.toNat_natCast k
    have hWj : ∀ j, j < k → (F.map (bget (faceOf al))).getD j 0 = ((F.take k).map (bget (faceOf al))).getD j 0 := by
      intro j hj
      rw [List.getD_eq_getElem?_getD, List.getD_eq_getElem?_getD, List.getElem?_map, List.getElem?_map, List.getElem?_take, if_pos hj]
    by_cases h127 : bget (faceOf al) (F.getD k 0) = 127
    · refine .inr (.inl ⟨F.take k, shape_low hlow (by rw [htl]; exact Nat.le_trans (Nat.le_of_lt hk) hl), ?_, ?_⟩)
      · intro l v g h' hd
        unfold DueOut at hd
        rw [hp] at hd
        simp only [hqk, h127, if_true] at hd
        exact hd
      · refine ⟨fun j hj => ?_, ?_⟩
        · rw [List.length_map, htl] at hj
          rw [← hWj j hj]
          exact plain_next hpl hj
        · rw [List.length_map, htl]
          exact .inr ⟨Nat.lt_of_lt_of_le hk hl, gnext_127 hpl (by rw [hWk, h127])⟩
    · have h0 : bget (faceOf al) (F.getD k 0) = 0 := by
        rw [← stop_iff] at hst
        simp only [isStop, Bool.or_eq_true, beq_iff_eq] at hst
        rcases hst with h1 | h1
        · exact absurd h1 h127
        · exact h1
      rcases Nat.eq_zero_or_pos k with hz | hz
      · refine .inr (.inr ⟨?_, ?_⟩)
        · intro l v g h' hd
          unfold DueOut at hd
          rw [hp] at hd
          simp only [hqk, h0] at hd
          rw [if_neg (by decide), htl, if_neg (fun h => Nat.ne_of_gt h hz)] at hd
          exact hd
        · refine gnext_bad ?_
          rw [h0, hz] at hWk
          exact hWk
      · obtain ⟨j, rfl⟩ : ∃ j, k = j + 1 := ⟨k - 1, (Nat.sub_add_cancel hz).symm⟩
        have hjF : j < F.length := Nat.lt_of_succ_lt hk
        have hj12 : j + 1 ≤ 12 := Nat.le_trans (Nat.le_of_lt hk) hl
        have hdrop : (F.take (j + 1)).drop j = [F.getD j 0] := by
          rw [List.take_add_one, List.getElem?_eq_getElem hjF, List.drop_append_of_le_length (by rw [List.length_take]; exact Nat.le_of_eq (Nat.min_eq_left (Nat.le_of_lt hjF)).symm), List.drop_eq_nil_of_le (by rw [List.length_take]; exact Nat.min_le_left _ _), List.getD_eq_getElem?_getD, List.getElem?_eq_getElem hjF]
          rfl
        have hjm : F.getD j 0 ∈ F.take (j + 1) := by
          have : F.getD j 0 ∈ (F.take (j + 1)).drop j := by rw [hdrop]; exact List.mem_singleton.mpr rfl
          exact List.mem_of_mem_drop this
        have hds : List.take 12 (List.take (j + 1) F ++ (List.replicate 12 (List.drop ((List.take (j + 1) F).length - 1) (List.take (j + 1) F))).flatten) = List.take (j + 1) F ++ List.replicate (11 - j) (F.getD j 0) := by
          rw [htl, Nat.add_sub_cancel, hdrop, rep_flat, List.take_append, htl, List.take_replicate, List.take_of_length_le (by rw [htl]; exact hj12), show min (12 - (j + 1)) 12 = 11 - j from (Nat.min_eq_left (Nat.sub_le _ _)).trans (Nat.succ_sub_succ_eq_sub 11 j)]
        have hdl : (List.take (j + 1) F ++ List.replicate (11 - j) (F.getD j 0)).length = 12 := by
          rw [List.length_append, htl, List.length_replicate, Nat.add_right_comm, Nat.add_sub_cancel' (Nat.le_of_succ_le_succ hj12)]
        refine .inr (.inl ⟨List.take (j + 1) F ++ List.replicate (11 - j) (F.getD j 0), shape_low ?_ (Nat.le_of_eq hdl), ?_, ?_⟩)
        · intro f hf
          rcases List.mem_append.mp hf with hf | hf
          · exact hlow f hf
          · rw [List.eq_of_mem_replicate hf]; exact hlow _ hjm
        · intro l v g h' hd
          unfold DueOut at hd
          rw [hp] at hd
          simp only [hqk, h0] at hd
          rw [if_neg (by decide), if_pos (by rw [htl]; exact Nat.succ_pos j), hds] at hd
          exact hd
        · refine ⟨fun i hi => ?_, .inl (by rw [List.length_map, hdl])⟩
          rw [List.length_map, hdl] at hi
          rcases Nat.lt_or_ge i (j + 1) with hlt | hge
          · rw [List.map_append, List.getD_eq_getElem?_getD, List.getElem?_append_left (by rw [List.length_map, htl]; exact hlt), ← List.getD_eq_getElem?_getD, ← hWj i hlt]
            exact plain_next hpl hlt
          · rw [List.map_append, List.getD_eq_getElem?_getD, List.getElem?_append_right (by rw [List.length_map, htl]; exact hge), List.length_map, htl, List.map_replicate, List.getElem?_replicate, if_pos (Nat.succ_sub_succ_eq_sub 11 j ▸ Nat.sub_lt_sub_right hge hi)]
            refine gnext_rep hpl (by rw [hWk, h0]) ?_ hge
            rw [List.getElem?_map, List.getD_eq_getElem?_getD, List.getElem?_eq_getElem hjF]
            rfl
theorem len_tab : ∀ n : Fin 10, (n.val * 4 + 2) / 3 + (3 - n.val % 3) % 3 ≤ 12 ∧ ((3 - n.val % 3) % 3 = 0 ∨ ((3 - n.val % 3) % 3 ≤ 2 ∧ ((n.val * 4 + 2) / 3) % 4 + (3 - n.val % 3) % 3 = 4)) := by decide
theorem holds_call (w : World) (x al : Array UInt8) (t u : Tok) (hx : x.size ≤ 9) (h : IsAlt al) : ComesT w 10 141 [.bytes x t, .bytes al u] [] (fun _ => True) (fun v _ _ => v = .bool true) := by
  have hb : ∀ n ∈ KBw.bInts x, 0 ≤ n ∧ n < 256 := by
    intro n hn
    obtain ⟨c, _, rfl⟩ := List.mem_map.mp hn
    exact ⟨Int.natCast_nonneg _, Int.ofNat_lt.mpr c.toNat_lt⟩
  have hbl : (KBw.bInts x).length = x.size := KBw.ints_length x
  have hW := writing_eq hb h
  have hF := shown_eq hb
  have hgl : (figsOf (KBw.bInts x)).length = (x.size * 4 + 2) / 3 := by rw [figsOf, dig_length, hbl]
  have hgi : ∀ f ∈ figsOf (KBw.bInts x), 0 ≤ f ∧ f < 64 := dig_in (by decide) _ _
  have hpd : padsOf (KBw.bInts x) = (3 - x.size % 3) % 3 := by rw [padsOf, hbl]
  have hFl : (shown (KBw.bInts x)).length = (figsOf (KBw.bInts x)).length + padsOf (KBw.bInts x) := by rw [hF]; simp
  have hF12 : (shown (KBw.bInts x)).length ≤ 12 := by rw [hFl, hgl, hpd]; exact (len_tab ⟨x.size, Nat.lt_succ_of_le hx⟩).1
  have hF65 : ∀ n ∈ shown (KBw.bInts x), 0 ≤ n ∧ n < 65 := by
    intro n hn
    rw [hF] at hn
    rcases List.mem_append.mp hn with hn | hn
    · exact ⟨(hgi n hn).1, Int.lt_trans (hgi n hn).2 (by decide)⟩
    · rw [List.eq_of_mem_replicate hn]; decide
  rcases due_cases h (shown (KBw.bInts x)) (figsOf (KBw.bInts x)) (padsOf (KBw.bInts x)) hF hgi hF12 (by rw [hgl, hpd]; exact (len_tab ⟨x.size, Nat.lt_succ_of_le hx⟩).2) with ⟨S, hD, hT⟩ | ⟨ds, S, hD, hT⟩ | ⟨hD, hT⟩
  · exact holds_ok w x al t u hx h _ _ _ True S hF65 hF12 (fun l v g h' e => .inl ⟨trivial, .inr ⟨hD l v g h' e, rfl⟩⟩) (fun _ => hT) (fun q => absurd trivial q) hW
  · exact holds_ok w x al t u hx h ds ds 0 True S hF65 hF12 (fun l v g h' e => .inl ⟨trivial, .inl (hD l v g h' e)⟩) (fun _ => hT) (fun q => absurd trivial q) hW
  · exact holds_ok w x al t u hx h [] [] 0 False (shape_low (fun _ hf => nomatch hf) (by decide)) hF65 hF12 (fun l v g h' e => .inr ⟨id, hD l v g h' e⟩) (fun q => q.elim) (fun _ zs hz => told_not_bad hz ⟨0, by decide, hT⟩) hW
end
section
open PySem PySem.W PySem.Spec PySem.Calls PyProof.Rows
/-- how a turn of a loop ends whose body makes generators -/
def TurnG (h₀ : Heap) (L : Addr) (x : Str) (stored : List Str) (m₀ : Str → Option Value) (news own : List (Addr × Obj)) (s : Shared) (Qr : Value → Shared → Prop) (f : Flow) (s' : Shared) : Prop :=
  match f with
  | .ret v => Qr v s'
  | .brk => False
  | _ => ∃ h' tk' gs' m', s' = { s with heap := h', toks := tk', gens := gs' } ∧ (AllBare s.gens → AllBare gs') ∧ Fr h₀ L h' m' ∧ News h₀ L h' (own ++ news) ∧ ∀ z, z ≠ x → stored.contains z = false → m' z = m₀ z
section
variable {prog : Program} {w : World} {A : Around} {s : Shared} {env : Env} {h₀ : Heap}
theorem turn_names {h : Heap} {L : Addr} {x : Str} {stored : List Str} {m₀ m₁ : Str → Option Value} {v : Value} (h2 : ∀ z, z ≠ x → stored.contains z = false → m₁ z = m₀ z)
    (F : Fr h₀ L h (fun y => if y = x then some v else m₁ y)) : Fr h₀ L h (fun y => if y = x then some v else if stored.contains y then m₁ y else m₀ y) := by
  have em : (fun y => if y = x then some v else if stored.contains y then m₁ y else m₀ y) = fun y => if y = x then some v else m₁ y := by
    funext y
    by_cases hy : y = x
    · rw [if_pos hy, if_pos hy]
    · rw [if_neg hy, if_neg hy]
      cases h3 : stored.contains y with
      | true => simp
      | false => simp only [Bool.false_eq_true, if_false]; exact (h2 y hy h3).symm
  rw [em]
  exact F
theorem forLoopG {R : Result → Shared → Prop} {x : Str} {px : Pos} {body : List Stmt} {I : Addr} {fp wr : List Addr} {n : Nat} {P : Nat → Value → Prop} {St : Nat → Heap → Prop} {m : Str → Option Value}
    {news : List (Addr × Obj)} (stored : List Str) (W : Walks prog w A I fp wr n P St) (hx : env.kindOf x = some .local)
    (hp : (env.scope.kind == .class || (env.scope.kind == .module && env.locals != env.globals)) = false)
    (hLf : env.locals ∉ fp) (hwr : ∀ b ∈ wr, h₀.get? b = none) (hnw : ∀ p ∈ news, p.1 ∉ wr)
    (hst : St 0 s.heap) (F : Fr h₀ env.locals s.heap m) (N : News h₀ env.locals s.heap news)
    (step : ∀ i v (u : Str → Option Value) h tk gs own, i < n → P i v → (AllBare s.gens → AllBare gs) →
      Fr h₀ env.locals h (fun y => if y = x then some v else if stored.contains y then u y else m y) → News h₀ env.locals h (own ++ news) →
      wpAny (model prog w) A (execs body env) (TurnG h₀ env.locals x stored m news own { s with heap := h, toks := tk, gens := gs } fun v s' => R (.ok (.ret v)) s') (notedBy (model prog w) A env fun e s' => R (.error e) s') { s with heap := h, toks := tk, gens := gs })
    (hR : ∀ h' tk gs m', (AllBare s.gens → AllBare gs) → Fr h₀ env.locals h' m' → News h₀ env.locals h' news → (∀ z, z ≠ x → stored.contains z = false → m' z = m z) → R (.ok .next) { s with heap := h', toks := tk, gens := gs }) :
    codeAny (model prog w) A (.forLoop (.Name x px) (.ref I) body [] env) R s := by
  have hLw : env.locals ∉ wr := fun h => hLf (W.sub _ h)
  have old : ∀ b o, h₀.get? b = some o → b ∉ wr := fun b o e hb => by rw [hwr b hb] at e; cases e
  refine codeAny_forLoop
    (fun k s' => ∃ h' tk gs m' i, s' = { s with heap := h', toks := tk, gens := gs } ∧ (AllBare s.gens → AllBare gs) ∧ St i h' ∧ Fr h₀ env.locals h' m' ∧ News h₀ env.locals h' news ∧ (∀ z, z ≠ x → stored.contains z = false → m' z = m z) ∧ i ≤ n ∧ k = n + 1 - i) ?_ (n + 1)
    ⟨s.heap, s.toks, s.gens, m, 0, rfl, fun x => x, hst, F, N, fun _ _ _ => rfl, Nat.zero_le _, rfl⟩
  rintro k s' ⟨h', tk, gs, m', i, rfl, hg, hst', F', N', hm, hi, rfl⟩
  have next : ∀ h₁ : Heap, (∀ b o, b ∉ wr → h'.get? b = some o → h₁.get? b = some o) → Fr h₀ env.locals h₁ m' ∧ News h₀ env.locals h₁ news := fun h₁ hk₁ =>
    ⟨⟨F'.ns.at' fun o e => hk₁ _ o hLw e, fun b o e => hk₁ b o (old b o e) (F'.keep b o e), F'.above⟩, fun p hp => ⟨hk₁ _ _ (hnw p hp) (N' p hp).1, (N' p hp).2⟩⟩
  by_cases hlt : i < n
  · refine W.item i _ _ _ hlt hst' fun v h₁ tk₁ hP hst₁ hk₁ => ?_
    obtain ⟨F₁, N₁⟩ := next h₁ hk₁
    refine wpAny_assign_Name (wpAny_storeName_local hx F₁.ns (fun h₂ hn₂ hs₂ => ?_) hp)
    have F₂ := F₁.set hn₂ hs₂
    have Nown : News h₀ env.locals h₂ (ownOf h₀ fp h₂) := news_ownOf hLf
    have hst₂ : St (i + 1) h₂ := W.frame _ _ _ hst₁ fun b hb o e => (hs₂.2 b fun q => hLf (q ▸ hb)).trans e
    have back : ∀ h₃' : Heap, ∀ m₂, Fr h₀ env.locals h₃' m₂ → News h₀ env.locals h₃' (ownOf h₀ fp h₂ ++ news) → St (i + 1) h₃' := fun h₃' m₂ F₃ N₃ => by
      refine W.frame _ _ _ hst₁ fun b hb o e => ?_
      have e₂ : h₂.get? b = some o := (hs₂.2 b fun q => hLf (q ▸ hb)).trans e
      cases hn : h₀.get? b with
      | some o₀ =>
        have : o₀ = o := by have := F₂.keep b o₀ hn; rw [e₂] at this; exact (Option.some.inj this).symm
        exact this ▸ F₃.keep b o₀ hn
      | none => exact (N₃ _ (List.mem_append_left _ (mem_ownOf hb hn e₂))).1
    refine wpAny_mono (step i v m' h₂ _ gs (ownOf h₀ fp h₂) hlt hP hg (turn_names hm F₂) (Nown.append (N₁.set hs₂))) (fun f s₃ h₃ => ?_) fun _ _ e => e
    cases f with
    | ret v => exact h₃
    | brk => exact h₃.elim
    | cont =>
      obtain ⟨h₃', tk₃, gs₃, m₂, rfl, hg₃, F₃, N₃, hm₃⟩ := h₃
      exact ⟨n + 1 - (i + 1), by omega, h₃', tk₃, gs₃, m₂, i + 1, rfl, fun q => hg₃ (hg q), back h₃' m₂ F₃ N₃, F₃, N₃.right, hm₃, hlt, rfl⟩
    | next =>
      obtain ⟨h₃', tk₃, gs₃, m₂, rfl, hg₃, F₃, N₃, hm₃⟩ := h₃
      exact ⟨n + 1 - (i + 1), by omega, h₃', tk₃, gs₃, m₂, i + 1, rfl, fun q => hg₃ (hg q), back h₃' m₂ F₃ N₃, F₃, N₃.right, hm₃, hlt, rfl⟩
  · have hin : i = n := by omega
    subst hin
    refine W.done _ _ _ hst' fun h₁ tk₁ hk₁ => wpAny_execs_nil ?_
    obtain ⟨F₁, N₁⟩ := next h₁ hk₁
    exact hR h₁ tk₁ gs m' hg F₁ N₁ hm
/-- a loop over a range whose body makes generators, at the range -/
def RangeG (prog : Program) (w : World) (A : Around) (h₀ : Heap) (env : Env) (x : Str) (body : List Stmt) (Q : Flow → Shared → Prop) (E : Value → Shared → Prop) (xv : Value) (s : Shared) : Prop :=
  ∃ r a b c t u v n m news stored, xv = .ref r ∧ IsRange s.heap r a b c t u v ∧ Builtin.Range.small a b c = true ∧ Builtin.Range.rangeSize a b c = ((n : Nat) : Int) ∧ Fr h₀ env.locals s.heap m ∧ News h₀ env.locals s.heap news ∧
    (∀ (i : Nat) t (u : Str → Option Value) h tk gs own, i < n → (AllBare s.gens → AllBare gs) →
      Fr h₀ env.locals h (fun y => if y = x then some (.int (a + (i : Int) * c) t) else if List.contains stored y then u y else m y) → News h₀ env.locals h (own ++ news) →
      wpAny (model prog w) A (execs body env) (TurnG h₀ env.locals x stored m news own { s with heap := h, toks := tk, gens := gs } fun v s' => Q (.ret v) s') E { s with heap := h, toks := tk, gens := gs }) ∧
    ∀ h' tk gs (u : Str → Option Value), (AllBare s.gens → AllBare gs) → Fr h₀ env.locals h' (fun y => if y = x then u y else if List.contains stored y then u y else m y) → News h₀ env.locals h' news → Q .next { s with heap := h', toks := tk, gens := gs }
theorem For_rangeG {E : Value → Shared → Prop} {Q : Flow → Shared → Prop} {x : Str} {px pos : Pos} {iter : Expr} {body : List Stmt} (h₀ : Heap) (hh : A.handled = none) (hx : env.kindOf x = some .local)
    (hp : (env.scope.kind == .class || (env.scope.kind == .module && env.locals != env.globals)) = false)
    (h : wpAny (model prog w) A (eval iter env) (fun xv s₁ => RangeG prog w A h₀ env x body Q E xv s₁) E s)
    (hs : ∀ x, foldedSetIterable iter env x = pure x := by intro _; rfl)
    (hE : PassesOwn (model prog w) A env E := by passes_own) :
    wpAny (model prog w) A (exec (.For (.Name x px) iter body [] pos) env) Q E s := by
  refine wpAny_For (wpAny_mono h (fun xv s₁ h₁ => ?_) fun _ _ e => e) hs
  obtain ⟨r, a, b, c, t, u, v, n, m, news, stored, rfl, hr, hsmall, hn, F, N, step, hQ⟩ := h₁
  refine wpAny_pyIter_range hr hsmall ?_
  have W : Walks prog w A s₁.heap.objs.size [s₁.heap.objs.size] [s₁.heap.objs.size] n (fun i v => i < n ∧ ∃ t, v = .int (a + i * c) t)
      (fun i h => IsRangeIter h s₁.heap.objs.size (a + (i : Nat) * c) ((n : Int) - (i : Nat)) c) := (Walks.range hh _ a c n).bound
  refine forLoopG (R := fun r s' => match r with | .ok f => Q f s' | .error e => cameBackBy (model prog w) A env E e s') (m := m) (news := news) stored W hx hp ?_ ?_ ?_ ?_ (F.push _) (fun p hp => ⟨Heap.get?_push_of_some _ (N p hp).1, (N p hp).2⟩) ?_ ?_
  · intro hm
    exact absurd F.ns.lt ((List.mem_singleton.mp hm) ▸ Nat.lt_irrefl _)
  · intro b hb
    rw [List.mem_singleton.mp hb]
    exact next_is_new F
  · intro p hp hI
    exact absurd (Heap.lt_size (N p hp).1) ((List.mem_singleton.mp hI) ▸ Nat.lt_irrefl _)
  · show IsRangeIter _ _ _ _ _
    rw [hn]
    simpa using Heap.get?_push_size _ rfl
  · rintro i v u h tk gs own hi ⟨_, t', rfl⟩ hg F₁ N₁
    exact wpAny_passesOwn hE (step i t' u h tk gs own hi hg F₁ N₁)
  · intro h' tk gs m' hg F₁ N₁ hm
    refine hQ h' tk gs m' hg ?_ N₁
    have em : (fun y => if y = x then m' y else if List.contains stored y then m' y else m y) = m' := by
      funext y
      by_cases hy : y = x
      · rw [if_pos hy]
      · rw [if_neg hy]
        cases h3 : stored.contains y with
        | true => simp
        | false => simp only [Bool.false_eq_true, if_false]; exact (hm y hy h3).symm
    rw [em]
    exact F₁
end
theorem outer_fin : ∀ k : Fin 10, Builtin.Range.small 0 ((k.val : Nat) : Int) 3 = true ∧ Builtin.Range.rangeSize 0 ((k.val : Nat) : Int) 3 = (((k.val + 2) / 3 : Nat) : Int) := by decide
theorem outer_range {k : Nat} (h : k ≤ 9) : Builtin.Range.small 0 (k : Int) 3 = true ∧ Builtin.Range.rangeSize 0 (k : Int) 3 = (((k + 2) / 3 : Nat) : Int) := outer_fin ⟨k, by omega⟩
end
section
open PySem PySem.W PySem.Spec PySem.Calls PyProof.Rows
theorem fmod4_lo (n : Int) : 0 ≤ n.fmod 4 := by rw [Int.fmod_eq_emod_of_nonneg _ (by omega)]; omega
theorem fmod4_hi (n : Int) : n.fmod 4 < 4 := by rw [Int.fmod_eq_emod_of_nonneg _ (by omega)]; omega
theorem item_four {prog : Program} {w : World} {A : Around} {E : Value → Shared → Prop} {s : Shared} {Q : Value → Shared → Prop} {value slice : PySem.Expr} {l : Addr} {v0 v1 v2 v3 : Value} {i : Int} {u : Tok} (ht : IsTup s.heap l #[v0, v1, v2, v3]) (h0 : 0 ≤ i) (h1 : i < 4) (h : ∀ v, (v = v0 ∨ v = v1 ∨ v = v2 ∨ v = v3) → Q v s)
    (hs : subscripted slice false (.ref l) (.int i u) = operate [.ref l, .int i u] (getItem (.ref l) (.int i u)) := by with_unfolding_all rfl) : wpAny (model prog w) A (subscriptTail value slice (.ref l) (.int i u)) Q E s := by
  have e : i = 0 ∨ i = 1 ∨ i = 2 ∨ i = 3 := by
    obtain ⟨n, rfl⟩ := Int.eq_ofNat_of_zero_le h0
    exact (by decide : ∀ n : Fin 4, ((n.val : Nat) : Int) = 0 ∨ ((n.val : Nat) : Int) = 1 ∨ ((n.val : Nat) : Int) = 2 ∨ ((n.val : Nat) : Int) = 3) ⟨n, Int.ofNat_lt.mp h1⟩
  have hn : i < (((#[v0, v1, v2, v3] : Array Value).size : Nat) : Int) := h1
  rcases e with rfl | rfl | rfl | rfl
  · exact tail_any ht.typeIs slot_tuple_getitem.lookup (getItem_tuple ht (by omega) (by omega) (seqIndex_of h0 hn) (x := v0) rfl (h v0 (.inl rfl))) hs
  · exact tail_any ht.typeIs slot_tuple_getitem.lookup (getItem_tuple ht (by omega) (by omega) (seqIndex_of h0 hn) (x := v1) rfl (h v1 (.inr (.inl rfl)))) hs
  · exact tail_any ht.typeIs slot_tuple_getitem.lookup (getItem_tuple ht (by omega) (by omega) (seqIndex_of h0 hn) (x := v2) rfl (h v2 (.inr (.inr (.inl rfl))))) hs
  · exact tail_any ht.typeIs slot_tuple_getitem.lookup (getItem_tuple ht (by omega) (by omega) (seqIndex_of h0 hn) (x := v3) rfl (h v3 (.inr (.inr (.inr rfl))))) hs
theorem sumN {prog : Program} {w : World} {A : Around} {E : Value → Shared → Prop} {s : Shared} {Q : Value → Shared → Prop} {h₀ : Heap} {L l : Addr} {m : Str → Option Value} {news : List (Addr × Obj)} {vs : List Value} {ns : List Int} (hh : A.handled = none) (F : Fr h₀ L s.heap m) (N : News h₀ L s.heap news) (hm : (l, LCg.lst vs) ∈ news) (hi : IntsAre vs ns)
    (h : ∀ h' tk t', Fr h₀ L h' m → News h₀ L h' news → Q (.int ns.sum t') { s with heap := h', toks := tk }) :
    wpAny (model prog w) A (call (.builtin "sum") [.ref l]) Q E s := sumK hh F N (News.isList N hm) hi h
theorem itemN {prog : Program} {w : World} {A : Around} {E : Value → Shared → Prop} {s : Shared} {Q : Value → Shared → Prop} {h₀ : Heap} {L l : Addr} {news : List (Addr × Obj)} {value slice : PySem.Expr} {v0 v1 v2 v3 : Value} {i : Int} {u : Tok} {n : Nat} (N : News h₀ L s.heap news) (hm : (l, { cls := .type "tuple", data := .seq #[v0, v1, v2, v3] n }) ∈ news)
    (h0 : 0 ≤ i) (h1 : i < 4) (h : ∀ v, (v = v0 ∨ v = v1 ∨ v = v2 ∨ v = v3) → Q v s)
    (hs : subscripted slice false (.ref l) (.int i u) = operate [.ref l, .int i u] (getItem (.ref l) (.int i u)) := by with_unfolding_all rfl) : wpAny (model prog w) A (subscriptTail value slice (.ref l) (.int i u)) Q E s := item_four (News.isTup N hm) h0 h1 h hs
theorem alt_in {ns : List Int} (h : ns = [0, 127] ∨ ns = [127, 0] ∨ ns = [0, 0] ∨ ns = [127, 127]) : IsAlt (byteArr ns) ∧ KBa.In ns ∧ ns.length ≤ 16777216 := by
  rcases h with rfl | rfl | rfl | rfl
  · exact ⟨.inl rfl, by intro n hn; simp at hn; omega, by decide⟩
  · exact ⟨.inr (.inl rfl), by intro n hn; simp at hn; omega, by decide⟩
  · exact ⟨.inr (.inr (.inl rfl)), by intro n hn; simp at hn; omega, by decide⟩
  · exact ⟨.inr (.inr (.inr rfl)), by intro n hn; simp at hn; omega, by decide⟩
theorem ints_two (a b : Int) (t u : Tok) : IntsAre [.int a t, .int b u] [a, b] := by constructor; constructor; constructor
theorem news_pair {h₀ h : Heap} {L D : Addr} {o : Obj} {p1 p2 p3 p4 p5 : Addr × Obj} {rest : List (Addr × Obj)} (N : News h₀ L h (p1 :: p2 :: p3 :: p4 :: p5 :: rest)) (hm : (D, o) ∈ p1 :: p2 :: p3 :: p4 :: p5 :: rest) : News h₀ L h ((D, o) :: rest) := fun p hp => by
  rcases List.mem_cons.mp hp with rfl | hp
  · exact N _ hm
  · exact N _ (.tail _ (.tail _ (.tail _ (.tail _ (.tail _ hp)))))
theorem pairs_any {h₀ h : Heap} {L : Addr} {tp : Addr × Obj} {rest : List (Addr × Obj)} {a b c d : Addr} {t1 t2 t3 t4 t5 t6 t7 t8 : Tok} {v : Value}
    (N : News h₀ L h (tp :: (d, W.listOf #[.int 127 t7, .int 127 t8] 0) :: (c, W.listOf #[.int 0 t5, .int 0 t6] 0) :: (b, W.listOf #[.int 127 t3, .int 0 t4] 0) :: (a, W.listOf #[.int 0 t1, .int 127 t2] 0) :: rest))
    (hv : v = .ref a ∨ v = .ref b ∨ v = .ref c ∨ v = .ref d) : ∃ D vs ns, v = .ref D ∧ News h₀ L h ((D, W.listOf (List.toArray vs) 0) :: rest) ∧ IntsAre vs ns ∧ IsAlt (byteArr ns) ∧ KBa.In ns ∧ ns.length ≤ 16777216 := by
  rcases hv with rfl | rfl | rfl | rfl
  · exact ⟨a, _, _, rfl, news_pair N (.tail _ (.tail _ (.tail _ (.tail _ (.head _))))), ints_two _ _ _ _, alt_in (.inl rfl)⟩
  · exact ⟨b, _, _, rfl, news_pair N (.tail _ (.tail _ (.tail _ (.head _)))), ints_two _ _ _ _, alt_in (.inr (.inl rfl))⟩
  · exact ⟨c, _, _, rfl, news_pair N (.tail _ (.tail _ (.head _))), ints_two _ _ _ _, alt_in (.inr (.inr (.inl rfl)))⟩
  · exact ⟨d, _, _, rfl, news_pair N (.tail _ (.head _)), ints_two _ _ _ _, alt_in (.inr (.inr (.inr rfl)))⟩
theorem not_one {a z : Str} (h : List.contains [a] z = false) : z ≠ a := by
  intro e; subst e; simp at h
theorem not_two {a b z : Str} (h : List.contains [a, b] z = false) : z ≠ a ∧ z ≠ b := by
  refine ⟨?_, ?_⟩ <;> (intro e; subst e; simp at h)
theorem one_not {a z : Str} (h : z ≠ a) : ¬ (List.contains [a] z = true) := by
  simpa using h
theorem two_not {l : List Str} {z : Str} (h : List.contains l z = false) : ¬ (List.contains l z = true) := by
  rw [h]; decide
theorem drawn_in (ns : List Int) : ∀ n ∈ List.map (fun k' => if Int.fmod k' 4 < 2 then 62 + Int.fmod k' 4 else Int.fmod (Int.fdiv k' 4) 64) ns ++ [5, 40, 62, 17, 63, 9, 62, 30], 0 ≤ n ∧ n < 64 := by
  intro n hn
  rcases List.mem_append.mp hn with hn | hn
  · obtain ⟨k, _, rfl⟩ := List.mem_map.mp hn
    have h1 : 0 ≤ Int.fmod k 4 ∧ Int.fmod k 4 < 4 := ⟨Int.fmod_nonneg_of_pos _ (by decide), Int.fmod_lt_of_pos _ (by decide)⟩
    have h2 : 0 ≤ Int.fmod (Int.fdiv k 4) 64 ∧ Int.fmod (Int.fdiv k 4) 64 < 64 := ⟨Int.fmod_nonneg_of_pos _ (by decide), Int.fmod_lt_of_pos _ (by decide)⟩
    split
    · exact ⟨Int.add_nonneg (by decide) h1.1, Int.add_lt_add_left (by assumption) 62⟩
    · exact h2
  · exact (by decide : ∀ n ∈ [(5 : Int), 40, 62, 17, 63, 9, 62, 30], 0 ≤ n ∧ n < 64) n hn
theorem drawn_len {ns ms : List Int} (h : ms.length ≤ 4) (f : Int → Int) (e : ns = ms.map f ++ [5, 40, 62, 17, 63, 9, 62, 30]) : ns.length ≤ 12 := by
  subst e
  rw [List.length_append, List.length_map]
  exact Nat.add_le_add_right h 8
theorem octs_len {ns : List Int} (hn : ∀ n ∈ ns, 0 ≤ n ∧ n < 64) (hl : ns.length ≤ 12) : (byteArr (octs ns)).size ≤ 9 := by
  rw [byteArr_size]
  unfold octs
  rw [List.length_reverse, List.length_map, rangeKs_length, Int.fdiv_eq_ediv_of_nonneg _ (by decide), Int.sub_zero]
  exact (Nat.le_trans (Nat.div_le_div_right (Nat.mul_le_mul_right 3 hl)) (by decide) : ns.length * 3 / 4 ≤ 9)
theorem oct_row (w : World) (l : Addr) (vs : List Value) (ns : List Int) (hi : IntsAre vs ns) (hn : ∀ n ∈ ns, 0 ≤ n ∧ n < 64) (hl : ns.length ≤ 12) : Comes w 1 114 [.ref l] [] (fun g => g.IsList l vs.toArray) (fun v _ _ => ∃ x t', v = .bytes x t' ∧ x.size ≤ 9) := by
  intro mean mg mb dp un gd cn cs L a ccd cl outer base g gs dr tk os Q E XB TB B X T hL hk D hd hu hpre hret hexc
  exact oct_call w l vs ns hi hn hl mean mg mb dp un gd cn cs L a ccd cl outer base g gs dr tk os Q E XB TB B X T hL hk D hd hu hpre (fun v h' tk' hs ⟨t', e⟩ => hret v h' tk' hs ⟨_, t', e, octs_len hn hl⟩) hexc
theorem comesT_use0 {w : World} {mean : ExcName → Option Value} {mg mb : Str → Option Value} {need : Nat} {f : Addr} {vs : List Value} {kw : List (Str × Value)} {news : List (Addr × Obj)} {pre : Heap → Prop} {R : Value → Heap → Heap → Prop}
    {dp un : Nat} {gd : Option (List Code)} {cn : Str} {cs : Scope} {a : Addr} {ccd : Value} {cl : List (Str × Addr)} {A₀ : Around} {base h₀ : Heap} {L : Addr} {m : Str → Option Value} {s : Shared} {Q E : Value → Shared → Prop}
    (C : ComesT w need f vs kw pre R)
    (B : Below A₀ base [] h₀) (F : Fr h₀ L s.heap m) (X₀ : (Mine.hd.heap_39 w.params).In h₀) (N : News h₀ L s.heap news) (T : Top Mine.hd.view_39 loose0 mean mg mb h₀) (hk : cs.kind = .function)
    (XB : (Mine.hd.heap_39 w.params).In base) (TB : Top Mine.hd.view_39 loose0 mean mg mb base) (D : KtsDicts (framesOf []) h₀)
    (hd : dp + need < recursionLimit) (hu : un + 8 * need < cLine) (hp : pre s.heap)
    (h : ∀ (v : Value) (g' h' : Heap) (tk' : Nat) (gs' : Array GenState), Fr h₀ L h' m → News h₀ L h' news → (AllBare s.gens → AllBare gs') → R v g' h' → Q v { s with heap := h', toks := tk', gens := gs' }) :
    wpAny (model PySem.Challenge.rw_pa0026_01.row.prog w) (ktrTop dp un gd cn cs L a ccd cl []) (call (.ref f) vs kw) Q E s := by
  refine comesT_use C B F X₀ N T hk XB TB D hd hu hp fun v h₀' g' h' tk' gs' T' F' N' _ _ _ _ hg _ hr => ?_
  refine h v g' h' tk' gs' ⟨F'.ns, fun b o e => F'.keep b o (T'.other b o e (fun hm => by cases hm)), by rw [← T'.size]; exact F'.above⟩ (fun p hp => ⟨(N' p hp).1, (N' p hp).2.1, ?_⟩) hg hr
  cases q : h₀.get? p.1 with
  | none => rfl
  | some o =>
    have := T'.other _ _ q (fun hm => by cases hm)
    rw [(N' p hp).2.2] at this
    cases this
set_option maxRecDepth 100000 in
set_option maxHeartbeats 2000000 in
theorem law_call (w : World) (l : Addr) (vs : List Value) (ns : List Int) (hi : IntsAre vs ns) (hlen : ns.length ≤ 63) :
  ∀ (mean : ExcName → Option Value) (mg mb : Str → Option Value) (base : Heap) (gs : Array GenState) (dr : Drawn) (tk : Nat) (os : OsState) (Q E : Value → Shared → Prop),
    (Mine.hd.heap_39 w.params).In base → Top Mine.hd.view_39 loose0 mean mg mb base → base.IsList l vs.toArray →
    (∀ (h' : Heap) (tk' : Nat) (gs' : Array GenState), base.StaysIn h' → (AllBare gs → AllBare gs') → Q (.bool true) ⟨h', gs', dr, tk', os⟩) →
    wpAny (model PySem.Challenge.rw_pa0026_01.row.prog w) callerA (call (.ref 146) [.ref l]) Q E ⟨base, gs, dr, tk, os⟩ := by
  k_with_none
  k_with "MINE enter" => (
      w_on
      dsimp only [Comes, ComesE]
      k_fill
      intro mean mg mb dp un gd cn cs L a ccd cl outer base g gs dr tk os Q E XB TB B X T hL hk D hd hu hpre hret hexc
      refine wpAny_call ?_
      k_dflt (first
        | (refine' enter_plain ?k3 ?k5 ?k6 ?k7 ?k8 ?k9 ?kB ?_ ?c2 ?c3 ?c4 ?c5; (case k3 => k_asm); (case k5 => k_asm); (case k6 => k_is); (case k7 => k_is); (case k8 => first | exact room0 hd | exact room1 hd rfl | exact room2 hd rfl | exact room3 hd rfl | ktr_room); (case k9 => first | exact BindsTo.of_eq rfl | exact binds_K (by k_in) rfl (by k_is) rfl rfl rfl); (case c5 => decide); (case kB => exact locs rfl); (case c2 => exact rfl); (case c3 => exact rfl); (case c4 => exact rfl); k_whole; intro L' h' eL' F' N')
        | (refine' enter_cells ?k3 ?k5 ?k6 ?k7 ?k8 ?k9 ?kB ?kD ?_ ?c2 ?c3 ?c4; (case k3 => k_asm); (case k5 => k_asm); (case k6 => k_is); (case k7 => k_is); (case k8 => first | exact room0 hd | exact room1 hd rfl | exact room2 hd rfl | exact room3 hd rfl | ktr_room); (case k9 => first | exact BindsTo.of_eq rfl | exact binds_K (by k_in) rfl (by k_is) rfl rfl rfl); (case kB => exact rfl); (case kD => decide +kernel); (case c2 => exact rfl); (case c3 => exact rfl); (case c4 => exact rfl); k_whole; intro L' h' tk' cells' eL' F' N' Y'; k_cells Y'))
      (try dsimp only)
      (try k_fold))
  k_with "MINE enterT" => (
      w_on
      dsimp only [ComesT]
      k_fill
      intro mean mg mb dp un gd cn cs L a ccd cl outer base g gs dr tk os Q E XB TB B X T hL hk D hd hu hpre hret
      refine wpAny_call ?_
      k_dflt (first
        | (refine' enter_plain ?k3 ?k5 ?k6 ?k7 ?k8 ?k9 ?kB ?_ ?c2 ?c3 ?c4 ?c5; (case k3 => k_asm); (case k5 => k_asm); (case k6 => k_is); (case k7 => k_is); (case k8 => first | exact room0 hd | exact room1 hd rfl | exact room2 hd rfl | exact room3 hd rfl | ktr_room); (case k9 => first | exact BindsTo.of_eq rfl | exact binds_K (by k_in) rfl (by k_is) rfl rfl rfl); (case c5 => decide); (case kB => exact locs rfl); (case c2 => exact rfl); (case c3 => exact rfl); (case c4 => exact rfl); k_whole; intro L' h' eL' F' N')
        | (refine' enter_cells ?k3 ?k5 ?k6 ?k7 ?k8 ?k9 ?kB ?kD ?_ ?c2 ?c3 ?c4; (case k3 => k_asm); (case k5 => k_asm); (case k6 => k_is); (case k7 => k_is); (case k8 => first | exact room0 hd | exact room1 hd rfl | exact room2 hd rfl | exact room3 hd rfl | ktr_room); (case k9 => first | exact BindsTo.of_eq rfl | exact binds_K (by k_in) rfl (by k_is) rfl rfl rfl); (case kB => exact rfl); (case kD => decide +kernel); (case c2 => exact rfl); (case c3 => exact rfl); (case c4 => exact rfl); k_whole; intro L' h' tk' cells' eL' F' N' Y'; k_cells Y'))
      (try dsimp only)
      (try k_fold))
  k_with "call type:type" => ((with_reducible show wpAny _ _ (call _ [Value.bytes _ _]) _ _ _); refine call_type_of (Tx := "bytes") rfl (by decide +kernel) ?_)
  k_with "MINE enterL" => (
      w_on
      k_fill
      intro mean mg mb base gs dr tk os Q E XB TB hl hret
      have BB : Below callerA base [] base := below_caller base
      have DD : KtsDicts (framesOf []) base := fun b hb => by cases hb
      refine wpAny_call ?_
      k_dflt ((refine' enter_plain ?k3 ?k5 ?k6 ?k7 ?k8 ?k9 ?kB ?_ ?c2 ?c3 ?c4 ?c5; (case k3 => k_asm); (case k5 => k_asm); (case k6 => k_is); (case k7 => k_is); (case k8 => decide); (case k9 => first | exact BindsTo.of_eq rfl | exact binds_K (by k_in) rfl (by k_is) rfl rfl rfl); (case c5 => decide); (case kB => exact locs rfl); (case c2 => exact rfl); (case c3 => exact rfl); (case c4 => exact rfl); k_whole; intro L' h' eL' F' N'))
      (try dsimp only)
      (try k_fold))
  k_with "call ref" => ((with_reducible show wpAny _ _ (call (Value.ref 114) [Value.ref _]) _ _ _); k_dflt (refine' comes_use (oct_row _ _ _ _ (by assumption) (drawn_in _) (drawn_len (by rw [List.length_map, List.length_take]; exact Nat.min_le_left _ _) _ rfl)) ?k1 ?k2 ?k3 ?k4 ?k5 ?k6 ?kXB ?kTB ?kD ?k7 ?k8 ?k9 ?_; (case k1 => k_asm); (case k2 => k_asm); (case k3 => k_asm); (case k4 => k_asm); (case k5 => k_asm); (case kXB => assumption); (case kTB => assumption); (case kD => assumption); (case k6 => first | exact rfl | assumption); (case k7 => decide); (case k8 => decide); (case k9 => kba_isList); k_whole; (intro v' h' tk' hs' F' N' e'); (obtain ⟨row, tr, e', hrow⟩ := e'); (subst e'); (try dsimp only); (try k_sweep)))
  k_with "exec For Name Call cons nil" => (k_here; with_unfolding_all (refine For_rangeG base (by rfl) (by rfl) (by rfl) ?_); (try k_fold))
  k_with "call builtin:sum" => (k_here; (with_reducible show wpAny _ _ (call (Value.builtin "sum") [Value.ref _]) _ _ _); k_dflt (refine' sumN ?k0 ?k1 ?k2 ?k3 ?k4 ?_; (case k0 => rfl); (case k1 => k_asm); (case k2 => k_asm); (case k3 => exact .tail _ (.tail _ (.tail _ (.tail _ (.tail _ (List.mem_append_right _ (List.mem_append_right _ (List.Mem.head _)))))))); (case k4 => exact hnu); k_whole); intro h' tk' t' F' N'; (try k_sweep))
  k_with "subscriptTail" => (k_here; (with_reducible show wpAny _ _ (subscriptTail _ _ (Value.ref _) (Value.int _ _)) _ _ _); k_dflt (refine' itemN ?k0 ?k1 ?k2 ?k3 ?_; (case k0 => k_asm); (case k1 => exact List.Mem.head _); (case k2 => exact fmod4_lo _); (case k3 => exact fmod4_hi _); k_whole); intro pv hpv; (rename News _ _ _ _ => Np); (try dsimp only at Np); have yy := pairs_any Np hpv; obtain ⟨pD, pvs, pns, epv, Nq, hpi, hpa, hpin, hpl⟩ := yy; subst epv; clear Np hpv)
  k_with "subscriptTail" => (k_here; (with_reducible show wpAny _ _ (subscriptTail _ (Expr.Slice _ _ none _) (Value.bytes _ _) (Value.ref _)) _ _ _); (with_reducible rename Fr _ _ _ _ => F'); (with_reducible rename News _ _ _ _ => N'); (refine KBc.slice_K (s := ⟨_, _, _, _, _⟩) F' N' rfl (by constructor) (by constructor) (by rw [KBw.ints_length]; omega) ?_); intro h' t' k' F1' N1' _; clear F' N')
  k_with "call type:bytes" => (k_here; (with_reducible show wpAny _ _ (call (Value.type "bytes") [Value.ref _]) _ _ _); k_dflt (refine' KBa.make_K ?kbaF ?kbaN ?kbah ?kbal ?kbai ?kbar ?kban ?_; (case kbaF => k_asm); (case kbaN => k_asm); (case kbah => rfl); (case kbal => exact News.isList (by assumption) (.head _)); (case kbai => exact hpi); (case kbar => exact hpin); (case kban => exact hpl); k_whole); intro h' t' k' F' N' _; (try k_sweep))
  k_with "call ref" => ((with_reducible show wpAny _ _ (call (Value.ref 141) [Value.bytes _ _, Value.bytes _ _]) _ _ _); k_dflt (refine' comesT_use0 (holds_call _ _ _ _ _ (Nat.le_trans (KBc.size_picked_le _ _ _) hrow) hpa) ?k1 ?k2 ?k3 ?k4 ?k5 ?k6 ?kXB ?kTB ?kD ?k7 ?k8 ?k9 ?_; (case k1 => k_asm); (case k2 => k_asm); (case k3 => k_asm); (case k4 => k_asm); (case k5 => k_asm); (case kXB => assumption); (case kTB => assumption); (case kD => assumption); (case k6 => first | exact rfl | assumption); (case k7 => decide); (case k8 => decide); (case k9 => trivial); k_whole; (intro v' g' h' tk' gs' F' N' hgs' e'); (subst e'); (try dsimp only); (try k_sweep)))
  walk_at "MINE enterL"
  k_steps
  rename_i h1 tk1 t1 u1 v1 R F N K
  clear K
  rename IntsAre _ (List.map (fun k' => Int.fmod k' (10 ^ Int.toNat 4)) (List.take 4 ns)) => hnu
  obtain ⟨osm, osz⟩ := outer_range hrow
  refine ⟨_, 0, (row.size : Int), 3, t1, u1, v1, (row.size + 2) / 3, _, [(_, LCg.lst _)], [Str.ofString "end", Str.ofString "pair"], rfl, R, osm, osz, F, kst_newsOf N (by intro p hp; rw [List.mem_singleton.mp hp]; exact .tail _ (.tail _ (.tail _ (.head _)))), ?turn, ?done⟩
  case done =>
    clear F N R
    intro h tk gs' u hg F N
    show wpAny _ _ _ _ _ _
    (try k_fold)
    k_steps
    exact hret h tk gs' F.keep hg
  case turn =>
    clear F N R
    intro i t u h tk gs' own hi' hg F N
    have hb0 : 0 ≤ 0 + (i : Int) * 3 := by omega
    have hb1 : 0 + (i : Int) * 3 < (row.size : Int) := by omega
    generalize 0 + (i : Int) * 3 = b at F hb0 hb1
    show wpAny _ _ _ _ _ _
    (try k_fold)
    k_steps
    rename_i h2 tk2 t2 u2 v2 R2 F2 N2 K2
    clear K2
    refine ⟨_, b, (row.size : Int) + 1, 1, t2, u2, v2, ((row.size : Int) + 1 - b).toNat, _, own ++ [(_, LCg.lst _)], [Str.ofString "pair"], rfl, R2, small_one (by omega) (by omega) (by omega) (by omega), rangeSize_nat _ _, F2, kst_newsOf N2 (by intro p hp; simpa using hp), ?turn2, ?done2⟩
    case done2 =>
      clear F2 N2 R2
      intro h tk gs2 u hg2 F N
      show wpAny _ _ _ _ _ _
      (try k_fold)
      k_steps
      refine ⟨_, _, _, _, rfl, hg2, F, kst_newsOf N (by intro p hp; simpa using hp), ?_⟩
      intro z z1 z2
      obtain ⟨z3, z4⟩ := not_two z2
      exact (if_neg z3).trans ((if_neg (one_not z4)).trans ((if_neg z1).trans ((if_neg (two_not z2)).trans rfl)))
    case turn2 =>
      clear F2 N2 R2
      intro j t u h tk gs2 own2 hj hg2 F N
      have he0 : b ≤ b + (j : Int) * 1 := by omega
      have he1 : b + (j : Int) * 1 ≤ (row.size : Int) := by omega
      generalize b + (j : Int) * 1 = e at F he0 he1
      show wpAny _ _ _ _ _ _
      (try k_fold)
      k_steps
      refine ⟨_, _, _, _, rfl, hgs', F', kst_newsOf N' (fun p hp => .tail _ hp), ?_⟩
      intro z z1 z2
      exact (if_neg (not_one z2)).trans ((if_neg z1).trans ((if_neg (two_not z2)).trans rfl))
end
end Mine
open PySem PySem.W PySem.Spec PySem.Calls PyProof.Rows
namespace Mine
theorem good_true {c : ClaimW} {cl : Str → Option Addr} {mean : ExcName → Option Value} {args : List WData} {s₁ : Shared} {h : Heap} {g : Array GenState} {d : Drawn} {t : Nat} {os : OsState}
    (D : s₁.heap.StaysIn h) (hr : ∀ cls, c.raises args cls = false) (hp : c.post args (.bool true) args = true) (hb : AllBare g) (ho : os = s₁.os) :
    GoodWG c cl mean args s₁ (.ok (.ret (.bool true))) ⟨h, g, d, t, os⟩ :=
  ⟨.inl ⟨_, _, [], rfl, hr, ReadsW.bool true, hp, fun _ => ⟨List.nodup_nil, fun _ hm => (nomatch hm)⟩⟩, .of_keep D, ho, hb⟩
end Mine
set_option maxRecDepth 100000 in
set_option maxHeartbeats 8000000 in
theorem PySem.Challenge.cw_pa0026_01_holds : PySem.Challenge.rw_pa0026_01.Holds := by
  refine Mine.hd ?_
  k_fill
  intro w s₀ s₁ mg mb G Y fa o pm cd doc dV kV ho hd hcd hD hmg hg args vals as hpre hlay hrd hwl hlo
  have KX := kIn_of Y
  refine Ground.open G ?_
  intro T B D TE TW
  wrow_args hpre hlay hrd hwl hlo
  x_fa T KX hmg
  refine Mine.law_call w _ _ _ (by assumption) (by omega) _ _ _ s₁.heap s₁.gens s₁.drawn s₁.toks s₁.os _ _ KX T (by assumption) ?_
  intro h' tk' gs' hs' hb
  exact Mine.good_true hs' (fun _ => rfl) (by first | rfl | wrow_post) (hb (.of_eq hg)) rfl
