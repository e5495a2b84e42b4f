import PyProof.Rows.All
import Wide.All
import OpenK.AllK
import Wide.FinOn
import Lean
import PySem.Challenge.RW_im0109_02
set_option Elab.async false
set_option maxRecDepth 100000
set_option maxHeartbeats 8000000
section
open PySem PySem.W PyProof.Rows PySem.Calls PySem.Spec
namespace Own
abbrev Led := List (Addr × Obj)

structure Cx (K : Frag) (p : Program) (loose : List Str) (mg mb : Str → Option Value) (bm : Addr) (ob : Obj) (A₀ : Around) (base : Heap) (outer : List Env) (h₀ : Heap) : Prop where
  B : Below A₀ base outer h₀
  X : K.In h₀
  T : TopRead p loose mg mb h₀
  M : BMod h₀ mainGlobals mg bm ob

def Spec (prog : Program) (w : World) (K : Frag) (p : Program) (loose : List Str) (mg mb : Str → Option Value) (bm : Addr) (ob : Obj) (kd ku : Nat) (f : Addr) (pos : List Value) (kw : List (Str × Value)) (sub : Led) (P : Value → Led → Prop) : Prop :=
  ∀ (dp un : Nat) (gd : Option (List Code)) (cn : Str) (cs : Scope) (L a : Addr) (ccd : Value) (cl : List (Str × Addr)) (outer : List Env) (A₀ : Around) (base h₀ : Heap) (m : Str → Option Value) (news : Led) (s : Shared) (R : Result → Shared → Prop),
    Cx K p loose mg mb bm ob A₀ base outer h₀ → Fr h₀ L s.heap m → News h₀ L s.heap news → cs.kind = .function → (∀ q ∈ sub, q ∈ news) → AllBare s.gens → dp + kd < recursionLimit → un + ku < cLine →
    (∀ v nw h' tk' g', P v nw → Fr h₀ L h' m → (∀ l : Led, (∀ q ∈ l, q ∈ nw ∨ (q ∈ news ∧ q.1 ∉ sub.map (·.1))) → News h₀ L h' l) →
      (∀ q ∈ news, q.1 ∉ sub.map (·.1) → ∀ q' ∈ nw, q.1 ≠ q'.1) → AllBare g' → R (.ok (.ret v)) ⟨h', g', s.drawn, tk', s.os⟩) →
    codeAny (model prog w) (ktrTop dp un gd cn cs L a ccd cl outer) (.call (.ref f) ⟨pos, kw⟩) R s

def Ret (g : Heap) (d : Drawn) (os : OsState) (P : Value → Led → Prop) (v : Value) (s' : Shared) : Prop :=
  ∃ L m nw, Fr g L s'.heap m ∧ News g L s'.heap nw ∧ P v nw ∧ AllBare s'.gens ∧ s'.drawn = d ∧ s'.os = os

def retOf : Flow → Value
  | .ret v => v
  | _ => .none

section
variable {prog : Program} {w : World} {K : Frag} {p : Program} {loose : List Str} {mg mb : Str → Option Value} {bm : Addr} {ob : Obj} {kd ku : Nat} {f : Addr} {args : Args} {sub : Led} {P : Value → Led → Prop}

theorem spec_of {name qual : Str} {params : Arguments} {body : List Stmt} {scope : Scope} {dV kV doc pm cdv ct oc : Value} {an od : Option Addr} {osl : Array (Option Value)} {pos : List Value} {kw : List (Str × Value)} {binds : List (Str × Value)}
    (ho : K.lookup f = some ⟨oc, od, .func (fnX name qual params body scope [] dV kV doc pm an cdv ct), osl⟩) (hcd : codeIn K cdv qual = true)
    (hbind : ∀ s : Shared, K.In s.heap → BindsTo s (fnX name qual params body scope [] dV kV doc pm an cdv ct) ⟨pos, kw⟩ binds)
    (hloc : ∀ y ∈ binds, scope.names.lookup y.1 = some .local) (hcell : ∀ x ∈ scope.names, x.2 ≠ .cell)
    (hb : ∀ (dp un : Nat) (gd : Option (List Code)) (L : Addr) (outer : List Env) (A₀ : Around) (base g h₁ : Heap) (gn : Array GenState) (d : Drawn) (tk : Nat) (os : OsState),
      Cx K p loose mg mb bm ob A₀ base outer g → Fr g L h₁ (fun y => binds.reverse.lookup y) → News g L h₁ sub → (∀ q ∈ sub, q.1 < L) → AllBare gn → dp + kd < recursionLimit + 1 → un + ku < cLine + 3 →
      wpAny (model prog w) (ktrTop dp un gd qual scope L f cdv [] outer) (execs body (envX qual scope L f cdv [])) (fun fl s' => Ret g d os P (retOf fl) s') (fun _ _ => False) ⟨h₁, gn, d, tk, os⟩)
    (hco : scope.isCoroutine = false) (hgen : scope.isGenerator = false) (hk : scope.kind = .function) (hkd : 0 < kd) :
    Spec prog w K p loose mg mb bm ob kd ku f pos kw sub P := by
  intro dp un gd cn cs L a ccd cl outer A₀ base h₀ m news s R C F N hcs hsub hG hd hu hret
  have Ns : News h₀ L s.heap sub := fun q hq => N q (hsub q hq)
  have X := C.X.keeps F.keep
  obtain ⟨FG, BG, st, lv⟩ := groundX (A := ktrTop dp un gd cn cs L a ccd cl outer) (env := envX cn cs L a ccd cl) (R := R) C.B F Ns rfl rfl hcs
  have hlim := C.T.nolimit.keeps F.keep
  refine codeAny_call_def (fd := fnX name qual params body scope [] dV kV doc pm an cdv ct) (body := body) (binds := binds) (by show dp < recursionLimit; omega) (X _ _ ho) rfl hlim (codeRec_of X hcd) rfl (hbind s X) hcell hloc (fun h₁ hns hk₁ => ?_) hco hgen hk
  have hF' : Fr (hideAll s.heap (sub.map (·.1))) s.heap.objs.size h₁ (fun y => binds.reverse.lookup y) := ⟨hns, fun b o e => hk₁ b o (of_hideAll _ e), Nat.le_of_eq (hideAll_size _ _)⟩
  have hN' : News (hideAll s.heap (sub.map (·.1))) s.heap.objs.size h₁ sub := fun q hq => ⟨hk₁ _ _ (Ns q hq).1, Nat.ne_of_lt (Heap.lt_size (Ns q hq).1), hideAll_none _ (List.mem_map_of_mem hq)⟩
  have hX' : Cx K p loose mg mb bm ob (ktrTop dp un gd cn cs L a ccd cl outer) base (envX cn cs L a ccd cl :: outer) (hideAll s.heap (sub.map (·.1))) := ⟨BG, C.X.keeps st, C.T.keeps st, ⟨C.M.ns.keeps st, C.M.name, C.M.ne, st _ _ C.M.obj, C.M.cls, C.M.dict, C.M.data⟩⟩
  obtain ⟨hh, gn, d, t, os⟩ := s
  have := hb (dp + 1) (un + 3) gd hh.objs.size (envX cn cs L a ccd cl :: outer) _ base _ h₁ gn d (t + binds.length) os hX' hF' hN' (fun q hq => Heap.lt_size (Ns q hq).1) hG (by omega) (by omega)
  refine wpAny_mono this (fun fl s' hl => ?_) (fun _ _ x => x.elim)
  obtain ⟨L', m', nw, F₂, N₂, hP, hG', hdr, hos⟩ := hl
  obtain ⟨h', g', d', t', os'⟩ := s'
  simp only at hdr hos F₂ N₂ hG'
  subst hdr; subst hos
  have keepL : ∀ b o, h₀.get? b = some o → h'.get? b = some o := fun b o e => F₂.keep b o (st b o e)
  have nmL : ∀ q ∈ news, q.1 ∉ sub.map (·.1) → (hideAll hh (sub.map (·.1))).get? q.1 = some q.2 := fun q hq hn => hideAll_get _ (N q hq).1 hn
  have FL : Fr h₀ L h' m := ⟨FG.ns.keeps F₂.keep, keepL, F.above⟩
  have hne : ∀ q ∈ nw, q.1 ≠ L := fun q hq e => by
    obtain ⟨oL, es, ep, hL, _⟩ := FG.ns
    have := (N₂ q hq).2.2; rw [e, hL] at this; cases this
  cases fl <;> (
    refine hret _ nw h' t' g' hP FL (fun l hl q hq => ?_) (fun q hq hn q' hq' e => ?_) hG'
    · rcases hl q hq with hq | ⟨hq, hn⟩
      · refine ⟨(N₂ q hq).1, hne q hq, ?_⟩
        cases z : h₀.get? q.1 with
        | none => rfl
        | some o => have := (N₂ q hq).2.2; rw [st _ _ z] at this; cases this
      · exact ⟨F₂.keep _ _ (nmL q hq hn), (N q hq).2⟩
    · have := (N₂ q' hq').2.2
      rw [← e, nmL q hq hn] at this; cases this)

theorem specC_of {name qual : Str} {params : Arguments} {body : List Stmt} {scope : Scope} {dV kV doc pm cdv ct oc : Value} {an od : Option Addr} {osl : Array (Option Value)} {pos : List Value} {kw : List (Str × Value)} {binds : List (Str × Value)}
    (ho : K.lookup f = some ⟨oc, od, .func (fnX name qual params body scope [] dV kV doc pm an cdv ct), osl⟩) (hcd : codeIn K cdv qual = true)
    (hbind : ∀ s : Shared, K.In s.heap → BindsTo s (fnX name qual params body scope [] dV kV doc pm an cdv ct) ⟨pos, kw⟩ binds)
    (hkind : (binds.all fun y => scope.names.lookup y.1 == some .local || scope.names.lookup y.1 == some .cell) = true)
    (hnd : ((cellsFrom 0 scope.names []).map (·.1)).Nodup)
    (hb : ∀ (dp un : Nat) (gd : Option (List Code)) (L : Addr) (outer : List Env) (A₀ : Around) (base g h₁ : Heap) (gn : Array GenState) (d : Drawn) (tk : Nat) (os : OsState) (cells : Led),
      Cx K p loose mg mb bm ob A₀ base outer g → Fr g L h₁ (bindL (envX qual scope L f cdv (cellsFrom (L + 1) scope.names [])).kindOf binds fun _ => none) → News g L h₁ (cells ++ sub) →
      CellsAre (bindC (envX qual scope L f cdv (cellsFrom (L + 1) scope.names [])).kindOf binds fun _ => none) (cellsFrom (L + 1) scope.names []) cells → (∀ q ∈ sub, q.1 < L) → AllBare gn → dp + kd < recursionLimit + 1 → un + ku < cLine + 3 →
      wpAny (model prog w) (ktrTop dp un gd qual scope L f cdv (cellsFrom (L + 1) scope.names []) outer) (execs body (envX qual scope L f cdv (cellsFrom (L + 1) scope.names []))) (fun fl s' => Ret g d os P (retOf fl) s') (fun _ _ => False) ⟨h₁, gn, d, tk, os⟩)
    (hco : scope.isCoroutine = false) (hgen : scope.isGenerator = false) (hk : scope.kind = .function) (hkd : 0 < kd) :
    Spec prog w K p loose mg mb bm ob kd ku f pos kw sub P := by
  intro dp un gd cn cs L a ccd cl outer A₀ base h₀ m news s R C F N hcs hsub hG hd hu hret
  have Ns : News h₀ L s.heap sub := fun q hq => N q (hsub q hq)
  have X := C.X.keeps F.keep
  obtain ⟨FG, BG, st, lv⟩ := groundX (A := ktrTop dp un gd cn cs L a ccd cl outer) (env := envX cn cs L a ccd cl) (R := R) C.B F Ns rfl rfl hcs
  have hlim := C.T.nolimit.keeps F.keep
  have hX' : Cx K p loose mg mb bm ob (ktrTop dp un gd cn cs L a ccd cl outer) base (envX cn cs L a ccd cl :: outer) (hideAll s.heap (sub.map (·.1))) := ⟨BG, C.X.keeps st, C.T.keeps st, ⟨C.M.ns.keeps st, C.M.name, C.M.ne, st _ _ C.M.obj, C.M.cls, C.M.dict, C.M.data⟩⟩
  refine codeAny_call_function (fd := fnX name qual params body scope [] dV kV doc pm an cdv ct) (by show dp < recursionLimit; omega) (X _ _ ho) rfl hco hgen rfl (codeRec_of X hcd) (hbind s X _ _ _ _ ?_)
  refine wpAny_newFunctionEnv_cells hk (kindsX hkind _) fun env' he s₁ x => ?_
  subst he
  refine ⟨hlim.keeps x.toInCall.keep, codeAny_func ?_⟩
  obtain ⟨h₁, tk, rfl, _⟩ := x.done
  have hk₁ := x.toInCall.keep
  obtain ⟨cells, NC, Y⟩ := Cl.news (h₀ := s.heap) (Nat.le_refl _) fun n c hm => ⟨x.cell n c (lookup_of_mem_nodup (cellsFrom_names scope.names 0 (s.heap.objs.size + 1) [] [] rfl ▸ hnd) hm), x.above n c hm⟩
  have hF' : Fr (hideAll s.heap (sub.map (·.1))) s.heap.objs.size h₁ _ := ⟨x.toInCall.ns, fun b o e => hk₁ b o (of_hideAll _ e), Nat.le_of_eq (hideAll_size _ _)⟩
  have hN' : News (hideAll s.heap (sub.map (·.1))) s.heap.objs.size h₁ (cells ++ sub) := fun q hq => by
    rcases List.mem_append.mp hq with hq | hq
    · refine ⟨(NC q hq).1, (NC q hq).2.1, ?_⟩
      cases z : (hideAll s.heap (sub.map (·.1))).get? q.1 with
      | none => rfl
      | some o => have := of_hideAll _ z; rw [(NC q hq).2.2] at this; cases this
    · exact ⟨hk₁ _ _ (Ns q hq).1, Nat.ne_of_lt (Heap.lt_size (Ns q hq).1), hideAll_none _ (List.mem_map_of_mem hq)⟩
  obtain ⟨hh, gn, d, t, os⟩ := s
  have := hb (dp + 1) (un + 3) gd hh.objs.size (envX cn cs L a ccd cl :: outer) _ base _ h₁ gn d tk os cells hX' hF' hN' Y (fun q hq => Heap.lt_size (Ns q hq).1) hG (by omega) (by omega)
  refine wpAny_mono this (fun fl s' hl => ?_) (fun _ _ x => x.elim)
  obtain ⟨L', m', nw, F₂, N₂, hP, hG', hdr, hos⟩ := hl
  obtain ⟨h', g', d', t', os'⟩ := s'
  simp only at hdr hos F₂ N₂ hG'
  subst hdr; subst hos
  have keepL : ∀ b o, h₀.get? b = some o → h'.get? b = some o := fun b o e => F₂.keep b o (st b o e)
  have nmL : ∀ q ∈ news, q.1 ∉ sub.map (·.1) → (hideAll hh (sub.map (·.1))).get? q.1 = some q.2 := fun q hq hn => hideAll_get _ (N q hq).1 hn
  have FL : Fr h₀ L h' m := ⟨FG.ns.keeps F₂.keep, keepL, F.above⟩
  have hne : ∀ q ∈ nw, q.1 ≠ L := fun q hq e => by
    obtain ⟨oL, es, ep, hL, _⟩ := FG.ns
    have := (N₂ q hq).2.2; rw [e, hL] at this; cases this
  cases fl <;> (
    refine hret _ nw h' t' g' hP FL (fun l hl q hq => ?_) (fun q hq hn q' hq' e => ?_) hG'
    · rcases hl q hq with hq | ⟨hq, hn⟩
      · refine ⟨(N₂ q hq).1, hne q hq, ?_⟩
        cases z : h₀.get? q.1 with
        | none => rfl
        | some o => have := (N₂ q hq).2.2; rw [st _ _ z] at this; cases this
      · exact ⟨F₂.keep _ _ (nmL q hq hn), (N q hq).2⟩
    · have := (N₂ q' hq').2.2
      rw [← e, nmL q hq hn] at this; cases this)
end
end Own
end
section
open PySem PySem.W PyProof.Rows PySem.Calls
namespace Own

def badIds : List String := ["bytearray.__contains__", "bytearray.__mod__", "bytearray.__rmod__", "_struct.pack_into.held", "bytearray.find.held"] ++ Builtin.Bytes.decodersThatHold
def cleanId (id : String) : Bool := !badIds.contains id
def cleanCode : Code → Bool
  | .builtin id _ => cleanId id
  | _ => true
def Clean (Γ : Ctx) : Prop := cleanCode Γ.code = true ∧ ∀ c ∈ Γ.below, cleanCode c.1 = true

/-- what holds in every context of the kind whose stack bears no codec's frame -/
def wpR {α : Type} (M : Model) (A : Around) (t : Sem α) (Q : α → Shared → Prop) (E : Value → Shared → Prop) (s : Shared) : Prop :=
  ∀ Γ p, Γ.In A → Clean Γ → Sem.wp M Γ t (fun a _ s' => Q a s') (fun e _ s' => E e s') p s

theorem wpR_of {α : Type} {M : Model} {A : Around} {t : Sem α} {Q : α → Shared → Prop} {E : Value → Shared → Prop} {s : Shared} (h : wpAny M A t Q E s) : wpR M A t Q E s := fun Γ p hi _ => h Γ p hi

abbrev WalkR (q : Program) (loose : List Str) (XP : (Str → Option Value) → Heap → Prop) (YP : World → Heap → Prop) (r : RowW) (d : DefRec) (kwd : List (Str × Expr)) : Prop :=
  ∀ (w : World) (s₀ s₁ : Shared) (mg mb : Str → Option Value), Ground q loose r.records XP w s₀ mg mb s₁.heap → YP w s₁.heap → ∀ (a : Addr) (o : Obj) (pm cd doc dV kV : Value), s₁.heap.get? a = some o →
    o.data = .func { docDef d.name d.params d.body d.scope pm cd doc with defaults := dV, kwdefaults := kV } → s₁.heap.CodeRec cd d.name → Dflts mg s₁.heap d.params kwd dV kV → mg d.name = some (.ref a) → s₁.gens = #[] →
    ∀ (args : List WData) (vals : List Value) (as : List Addr), r.claim.pre args = true → WData.layableAll args = true → ReadsAllW r.records (classAt s₀.heap) s₁.heap vals args as → WellAll w.params s₁.heap vals args → (∀ a ∈ as, (a == sysModules) = false) →
      wpR (model r.prog w) callerA (PySem.call (.ref a) vals) (fun v s' => GoodWG r.claim (classAt s₀.heap) (ExcName.means s₀.heap) args s₁ (.ok (.ret v)) s')
        (fun e s' => GoodWG r.claim (classAt s₀.heap) (ExcName.means s₀.heap) args s₁ (.error e) s') s₁

abbrev Γc : Ctx := ⟨.builtin "claim.caller" {}, none, none, [], none⟩
theorem clean_caller : Clean Γc := ⟨by decide +kernel, fun _ h => nomatch h⟩

/-- the call, told from the caller's own context, as the claim's stub runs it -/
theorem callFrom_caller {c : ClaimW} {tree : List Value → Sem Fin} {w : World} {s : Shared} {free : Addr → Prop} {gens : Prop} {kept : Heap → Prop} (hz : s.asleep) (hgens : s.gens = #[])
    (hspec : ∀ args, c.pre args = true → WData.layableAll args = true → ∀ ord : List DictEntry → List DictEntry, (∀ l, (ord l).Perm l) →
      ∃ vs s₁, layAllW c.records (classAt s.heap) w.params ord args s = some (vs, s₁) ∧
        Sem.wp (model c.prog w) Γc (tree vs) (fun fin _ s' => ∃ f, fin = .done f ∧ (c.Ends s args vs s₁ (.ok f) s' ∧ s'.os = s.os ∧ AllBare s'.gens ∧ kept s'.heap))
          (fun e _ s' => c.Ends s args vs s₁ (.error e) s' ∧ s'.os = s.os ∧ AllBare s'.gens ∧ kept s'.heap) default s₁) :
    c.CallFrom (fun vs => ⟨tree vs, .builtin "claim.caller" {}, default, []⟩) w free gens kept s := fun args hpre hlay ord hord => by
  obtain ⟨vs, s₁, hl, hc⟩ := hspec args hpre hlay ord hord
  obtain ⟨-, -, -, hlf⟩ := layAllW_rest _ _ _ hl
  have run := wp_halts_full (M := model c.prog w) (c := .builtin "claim.caller" {}) (t := tree vs) (R := fun r s' => c.Ends s args vs s₁ r s' ∧ s'.os = s.os ∧ kept s'.heap) (p := default) (s := s₁)
    (Shared.asleep_of_life hlf hz)
    (Sem.wp_mono _ _ _ (fun fin _ s' ⟨f, e, h1, h2, h3, h4⟩ => by subst e; exact ⟨⟨h1, h2, h4⟩, leftWithCleanup_false_of_bare h3⟩)
      (fun e _ s' ⟨h1, h2, h3, h4⟩ => ⟨⟨h1, h2, h4⟩, leftWithCleanup_false_of_bare h3⟩) default s₁ hc)
  obtain ⟨n, r, sa, sb, hsch, hrun, hfg, hE, hos, hkp⟩ := run
  obtain ⟨eh, _, _, eo, _⟩ := Shared.forget_eq hfg
  have lf : sb.heap.life = s.heap.life := (runN_life _ _ _ hrun).trans hlf
  refine ⟨vs, s₁, hl, n, outcomeOf r, sb, hsch, ?_, fun _ i x hx => by rw [hgens] at hx; simp at hx, by rw [eh]; exact hkp, by rw [lf], Shared.rest_eq (by rw [eo]; exact hos)⟩
  rcases ClaimW.Ends.congr eh hE with ⟨v, e, d1, d2, d3, d4, d5⟩ | ⟨x, ob, cls, e, d1, d2, d3, d4, d5⟩
  · subst e; exact .inl ⟨v, rfl, d1, d2, d3, fun b o y _ => d4 b o y, d5⟩
  · subst e; exact .inr ⟨x, ob, cls, rfl, d1, d2, d3, d4, fun b o y _ => d5 b o y⟩

theorem holdsR {r : OpenRow} {q : Program} {loose : List Str} {Xt : Shared → Bool} {XP : (Str → Option Value) → Heap → Prop} {α : Type} {Yf : Shared → α} {Ya : World → α} {YP : World → Heap → Prop} {d : DefRec} {kwd : List (Str × Expr)} {N : Nat}
    (left : LeftO r.prog q loose Xt Yf Ya N) (hY : ∀ w s, Yf s = Ya w → YP w s.heap) (hYk : ∀ w h h', YP w h → (∀ b o, h.get? b = some o → h'.get? b = some o) → YP w h')
    (hX : ∀ s, Xt s = true → XP (s.heap.nsMap mainGlobals) s.heap) (hXk : ∀ mg h h', XP mg h → (∀ b o, h.get? b = some o → h'.get? b = some o) → XP mg h')
    (hdef : defOf q r.name = some (d, kwd)) (hp : r.prog.theDef r.name = some (d.params, d.body, d.scope)) (hk : kwWritten? d.params.kwonlyargs d.params.kw_defaults = some kwd) (hRf : ∀ s, Xt s = true → RecFacts r.records s.heap) (hwr : (!r.writes || r.records.isEmpty) = true)
    (k1 : r.wellSaid = true) (ok : (chainsOk q && opensWell r.prog && (frees r.toRowW && r.within.isEmpty)) = true) (hb : r.prog.bare) (hw : r.toRowW.promised)
    (call : WalkR q loose XP YP r.toRowW d kwd) : r.Holds := by
  simp only [Bool.and_eq_true] at ok
  obtain ⟨⟨hch, o1⟩, k5, k6⟩ := ok
  obtain ⟨hsame, hu, ha, hap, hm⟩ := frees_parts k5
  have above := fun w => left.behind (XP := fun mg h => XP mg h ∧ RecFacts r.records h) (fun s hs => ⟨hX s hs, hRf s hs⟩) hch w
  refine ⟨k1, hw, ⟨hb, o1, show r.makers.map _ = [] by rw [hm]; rfl⟩, hw.witness, fun w => ⟨(above w).1, fun s' hs' => ?_⟩⟩
  obtain ⟨s₀, hf, hg0, s, hT, hz, hge, hg, G00, y⟩ := (above w).2 s' hs'
  have G0 : Ground q loose [] XP w s (s.heap.nsMap mainGlobals) (s.heap.nsMap builtinsNs) s.heap := ⟨G00.T, G00.B, G00.D, G00.TE, G00.TD, G00.W, G00.X.1, G00.cls, G00.has, G00.apart, G00.once, G00.K⟩
  have RF := G00.X.2
  have hgens : s.gens = #[] := Array.eq_empty_of_size_eq_zero (beq_iff_eq.mp hge)
  refine ⟨s₀, hf, hg0, s, hT, fun n hn => ?_, RF.1, RF.2.1, callFrom_caller hz hgens fun args hpre hlay ord hord => ?_⟩
  · have e : n = r.name := by split at hn <;> simp_all
    rw [e]; exact pinned_of_view hg G0 hdef hp hk
  have G : Ground q loose r.records XP w s _ _ s.heap := RF.ground G0
  obtain ⟨⟨vs, s₁⟩, hl⟩ := Option.isSome_iff_exists.mp (layAllW_isSome (P := w.params) (ord := ord) G.has args r.args s (pre_splitW hpre).1)
  have kp := layAllW_keeps _ _ _ hl
  have rest := layAllW_rest _ _ _ hl
  obtain ⟨as, hrd, hin, hold⟩ := reads_layAllW hord _ _ _ hl hlay s₁.heap (fun _ _ e => e)
  have L : Laid r.records w s s₁ args vs as := ⟨⟨ord, hord, hl⟩, hrd, hin, hold, kp, rest.1.trans hgens, rest.2.2.1⟩
  have G₁ := G.keeps hXk kp
  obtain ⟨a, o, pm, cd, doc, dV, kV, h1, h2, h3, h4, h5⟩ := G₁.fn hdef
  have body := call w s s₁ _ _ G₁ (hYk _ _ _ (hY w s y) kp) a o pm cd doc dV kV h2 h3 h4 h5 (defOf_name hdef ▸ h1) L.gens args vs as hpre hlay L.reads L.well (L.low G.low) Γc default caller_in clean_caller
  have good : ∀ {res : Result} {s' : Shared}, GoodWG r.claim (classAt s.heap) (ExcName.means s.heap) args s₁ res s' →
      r.claim.Ends s args vs s₁ res s' ∧ s'.os = s.os ∧ AllBare s'.gens ∧ (r.writes = true → namesKept r.prog r.keeps s.heap s'.heap ∧ ∀ x ∈ r.claim.records, ∀ a, classAt s.heap x.1 = some a → recordClass s'.heap a x.1 (x.2.map (·.1)) = true) := fun g =>
    have z := g.laid (c := r.claim) hsame (List.isEmpty_iff.mp k6) (ident_freeW hu ha hap) L
    ⟨z.1, z.2.1, z.2.2, fun qw => ⟨namesKept_of hT hg _ kp g.2.1.old, noTable hwr qw⟩⟩
  refine ⟨vs, s₁, hl, ?_⟩
  rw [Sem.wp_bind']
  refine Eq.mpr (Sem.wp_nsGet _ _ _ _ _ G₁.T.g _ _) ?_
  rw [h1]
  dsimp only
  rw [Sem.wp_bind']
  exact Sem.wp_mono _ _ _ (fun v _ s' g => ⟨_, rfl, good g⟩) (fun e _ s' g => good g) default s₁ body
end Own
end
section
open PySem PySem.W PyProof.Rows PySem.Calls
namespace Own
section
variable {α β : Type} {M : Model} {A : Around} {E E' : Value → Shared → Prop} {s : Shared}

def codeR (M : Model) (A : Around) (c : Code) (R : Result → Shared → Prop) (s : Shared) : Prop :=
  ∀ Γ p, Γ.code = c → Γ.Below A → Clean Γ → wpCode M Γ R p s
theorem codeR_of {c : Code} {R : Result → Shared → Prop} (h : codeAny M A c R s) : codeR M A c R s := fun Γ p hc hb _ => h Γ p hc hb
theorem codeR_mono {c : Code} {R R' : Result → Shared → Prop} (h : codeR M A c R s) (hR : ∀ r s, R r s → R' r s) : codeR M A c R' s := fun Γ p hc hb hl => wpCode_mono hR (h Γ p hc hb hl)

theorem wpR_mono {t : Sem α} {Q Q' : α → Shared → Prop} (h : wpR M A t Q E s) (hQ : ∀ a s, Q a s → Q' a s) (hE : ∀ e s, E e s → E' e s) : wpR M A t Q' E' s :=
  fun Γ p hi hl => Sem.wp_mono M Γ t (fun a _ s => hQ a s) (fun e _ s => hE e s) p s (h Γ p hi hl)
theorem wpR_bind {t : Sem α} {f : α → Sem β} {Q : β → Shared → Prop} (h : wpR M A t (fun a s' => wpR M A (f a) Q E s') E s) : wpR M A (t >>= f) Q E s := fun Γ p hi hl => by
  rw [Sem.wp_bind']
  exact Sem.wp_mono M Γ t (fun a p' s' h' => h' Γ p' hi hl) (fun _ _ _ x => x) p s (h Γ p hi hl)
/-- a piece that asks nothing of the stack, then the rest -/
theorem wpR_bindA {t : Sem α} {f : α → Sem β} {Q : β → Shared → Prop} (h : wpAny M A t (fun a s' => wpR M A (f a) Q E s') E s) : wpR M A (t >>= f) Q E s := wpR_bind (wpR_of h)
theorem wpR_pure {a : α} {Q : α → Shared → Prop} (h : Q a s) : wpR M A (pure a) Q E s := wpR_of (wpAny_pure h)
theorem wpR_holding {vs : List Value} {t : Sem α} {Q : α → Shared → Prop} (h : wpR M A t Q E s) : wpR M A (holding vs t) Q E s := fun Γ p hi hl => by rw [Sem.wp_holding]; exact h Γ p hi hl
theorem wpR_keep {vs : List Value} {t : Sem α} {Q : α → Shared → Prop} (h : wpR M A t Q E s) : wpR M A (t.keep vs) Q E s := fun Γ p hi hl => by rw [Sem.wp_keep]; exact h Γ p hi hl
theorem wpR_onRaise {t : Sem α} {g : Value → Sem Unit} {Q : α → Shared → Prop} (h : wpR M A t Q (fun e s' => wpAny M A (g e) (fun _ s'' => E e s'') E s') s) : wpR M A (t.onRaise g) Q E s := fun Γ p hi hl => by
  rw [Sem.wp_onRaise]
  exact Sem.wp_mono M Γ t (fun _ _ _ x => x) (fun e p' s' h' => h' Γ p' hi) p s (h Γ p hi hl)
theorem wpR_tryCatch {t : Sem α} {g : Value → Sem α} {Q : α → Shared → Prop} (h : wpR M A t Q (fun e s' => wpR M A (g e) Q E s') s) : wpR M A (t.tryCatch g) Q E s := fun Γ p hi hl => by
  rw [Sem.wp_tryCatch]
  exact Sem.wp_mono M Γ t (fun _ _ _ x => x) (fun e p' s' h' => h' Γ p' hi hl) p s (h Γ p hi hl)
theorem wpR_attempt {t : Sem α} {Q : Except Value α → Shared → Prop} (h : wpR M A t (fun a s' => Q (.ok a) s') (fun e s' => Q (.error e) s') s) : wpR M A t.attempt Q E s := fun Γ p hi hl => by
  rw [Sem.wp_attempt]; exact h Γ p hi hl
theorem wpR_in1 {t : Sem α} {Q : α → Shared → Prop} (h : wpR M A.in1 t Q E s) : wpR M A t Q E s := fun Γ p hi hl => h Γ p ⟨hi.1, hi.2.1, hi.2.2.1, hi.2.2.2.1, Nat.le_succ_of_le hi.2.2.2.2⟩ hl

theorem Clean.enter {Γ : Ctx} (h : Clean Γ) {c : Code} {hd : Option Value} {p : Pos} (hc : cleanCode c = true) : Clean (Γ.enter c hd p) :=
  ⟨hc, fun x hx => by
    rcases List.mem_cons.mp hx with rfl | hx
    · exact h.1
    · exact h.2 x hx⟩
theorem Clean.goto {Γ : Ctx} (h : Clean Γ) {c : Code} (hc : cleanCode c = true) : Clean (Γ.goto c) := ⟨hc, h.2⟩

theorem wpR_run {c : Code} {h : Option Value} {Q : Flow → Shared → Prop} (hl : cleanCode c = true)
    (hc : codeR M (A.mark h) c (fun r s' => match r with | .ok f => Q f s' | .error e => E e s') s) (hnb : h ≠ some byPass := by intro x; cases x) : wpR M A (run c h) Q E s :=
  fun Γ p hi hL => by rw [Sem.wp_run]; exact hc _ p rfl (hi.enter c h p hnb) (hL.enter hl)
theorem wpR_runValue {c : Code} {Q : Value → Shared → Prop} (hl : cleanCode c = true)
    (hc : codeR M A c (fun r s' => match r with | .ok (.ret v) => Q v s' | .ok _ => False | .error e => E e s') s) : wpR M A (runValue c) Q E s :=
  fun Γ p hi hL => by rw [Sem.wp_runValue]; exact hc _ p rfl (hi.enter c none p (by intro x; cases x)) (hL.enter hl)
theorem wpR_call {f : Value} {pos : List Value} {kw : List (Str × Value)} {Q : Value → Shared → Prop}
    (hc : codeR M A (.call f ⟨pos, kw⟩) (fun r s' => match r with | .ok (.ret v) => Q v s' | .ok _ => False | .error e => E e s') s) : wpR M A (call f pos kw) Q E s := wpR_runValue rfl hc

theorem codeR_of_tree {c : Code} {R : Result → Shared → Prop}
    (h : wpR M (A.under c) (M.den c) (fun fin s' => match fin with | .done f => R (.ok f) s' | .again c' => c'.quiet = true ∧ cleanCode c' = true ∧ codeR M A c' R s') (fun e s' => R (.error e) s') s) : codeR M A c R s := fun Γ p hc hb hL => by
  rw [wpCode_iff_wp, hc]
  refine Sem.wp_mono M Γ _ (fun fin p' s' h' => ?_) (fun _ _ _ h' => h') p s (h Γ p (hc ▸ hb.in) hL)
  cases fin with
  | done f => exact h'
  | again c' => exact ⟨h'.1, h'.2.2 (Γ.goto c') p' rfl (hb.goto c') (hL.goto h'.2.1)⟩
theorem codeR_loop {c : Code} {R : Result → Shared → Prop} (hq : c.quiet = true) (hl : cleanCode c = true) (I : Nat → Shared → Prop)
    (turn : ∀ n s, I n s → wpR M (A.under c) (M.den c) (fun fin s' => match fin with
        | .done f => R (.ok f) s'
        | .again c' => (c' = c ∧ ∃ m, m < n ∧ I m s') ∨ (c'.quiet = true ∧ cleanCode c' = true ∧ codeR M A c' R s')) (fun e s' => R (.error e) s') s)
    (n : Nat) (h : I n s) : codeR M A c R s := by
  induction n using Nat.strongRecOn generalizing s with
  | ind n ih =>
    refine codeR_of_tree (wpR_mono (turn n s h) (fun fin s' hf => ?_) fun _ _ x => x)
    cases fin with
    | done f => exact hf
    | again c' =>
      rcases hf with ⟨rfl, m, hm, hI⟩ | hf
      · exact ⟨hq, hl, ih m hm hI⟩
      · exact hf
end

section
variable {M : Model} {A : Around} {E : Value → Shared → Prop} {s : Shared} {env : Env}
theorem wpR_execs_nil {Q : Flow → Shared → Prop} (h : Q .next s) : wpR M A (execs [] env) Q E s := wpR_of (wpAny_execs_nil h)
theorem wpR_execs_cons {st : Stmt} {rest : List Stmt} {Q : Flow → Shared → Prop}
    (h : wpR M A (exec st env) (fun f s' => match f with | .next => wpR M A (execs rest env) Q E s' | f => Q f s') E s) : wpR M A (execs (st :: rest) env) Q E s := fun Γ p hi hL => by
  rw [execs_cons, Sem.wp_bind']
  refine Sem.wp_mono M Γ _ (fun f p' s' h' => ?_) (fun _ _ _ x => x) _ _ (h Γ p hi hL)
  cases f <;> first | exact h' Γ p' hi hL | exact h'
theorem execs_app (l₁ l₂ : List Stmt) : execs (l₁ ++ l₂) env = (do match ← execs l₁ env with | .next => execs l₂ env | f => pure f) := by
  induction l₁ with
  | nil => rfl
  | cons st r ih =>
    rw [List.cons_append, execs_cons, execs_cons, ih]
    show Sem.bind _ _ = Sem.bind (Sem.bind _ _) _
    rw [show ∀ (a : Sem Flow) (f : Flow → Sem Flow) (g : Flow → Sem Flow), (a.bind f).bind g = a.bind fun x => (f x).bind g from fun a f g => by
      induction a <;> simp_all only [Sem.bind]]
    congr 1; funext f; cases f <;> rfl
/-- statements that ask nothing of the stack, walked as the library walks them, then the rest -/
theorem wpR_execs_app {l₁ l₂ : List Stmt} {Q : Flow → Shared → Prop}
    (h : wpAny M A (execs l₁ env) (fun f s' => match f with | .next => wpR M A (execs l₂ env) Q E s' | f => Q f s') E s) : wpR M A (execs (l₁ ++ l₂) env) Q E s := by
  rw [execs_app]
  refine wpR_bindA (wpAny_mono h (fun f s' h' => ?_) fun _ _ x => x)
  cases f <;> first | exact h' | exact wpR_pure h'
theorem wpR_If {test : Expr} {body orelse : List Stmt} {pos : Pos} {Q : Flow → Shared → Prop}
    (h : wpR M A (isTrue test env (eval test env)) (fun b s₂ => if b then wpR M A (execs body env) Q E s₂ else wpR M A (execs orelse env) Q E s₂) E s) : wpR M A (exec (.If test body orelse pos) env) Q E s := fun Γ p hi hL => by
  simp only [exec_If, Sem.wp_bind', Sem.wp_cmd_standAt]
  refine Sem.wp_mono M Γ _ (fun b p₂ s₂ h₂ => ?_) (fun _ _ _ x => x) _ _ (h Γ _ hi hL)
  cases b <;> exact h₂ Γ p₂ hi hL
theorem wpR_Expr {e : Expr} {pos : Pos} {Q : Flow → Shared → Prop} (h : wpR M A (eval e env) (fun v s' => v = .none ∧ Q .next s') E s)
    (hi : interactive env = false := by rfl) (hs : swapsWith e none pos.line env = pure false := by rfl) : wpR M A (exec (.Expr e pos) env) Q E s := by
  rw [exec_Expr env e pos hi hs]
  refine wpR_bindA (wpAny_standAt (wpR_bind (wpR_mono h (fun v s' h' => ?_) fun _ _ x => x)))
  obtain ⟨rfl, hq⟩ := h'
  rw [dropValue_plain (fun a => by intro x; cases x)]
  exact wpR_pure hq
theorem wpR_Assign_Name {x : Str} {pos' pos : Pos} {value : Expr} {Q : Flow → Shared → Prop}
    (h : wpR M A (eval value env) (fun v s₁ => wpAny M A (storeName env x v) (fun _ => Q .next) E s₁) E s)
    (hs : swapsWith value (some (.Name x pos')) pos.line env = pure false := by rfl) : wpR M A (exec (.Assign [.Name x pos'] value pos) env) Q E s := fun Γ p hi hL => by
  simp only [exec_Assign_Name env x pos' value pos hs, Sem.wp_bind', Sem.wp_cmd_standAt, Sem.wp_bindName, Sem.wp_pure']
  exact Sem.wp_mono M Γ _ (fun v _ s₁ h₁ => h₁ Γ _ hi) (fun _ _ _ x => x) _ _ (h Γ _ hi hL)
theorem wpR_Return {e : Expr} {pos : Pos} {Q : Flow → Shared → Prop} (h : wpR M A (eval e env) (fun v => Q (.ret v)) E s) : wpR M A (exec (.Return (some e) pos) env) Q E s := fun Γ p hi hL => by
  simp only [exec_Return_some, Sem.wp_bind', Sem.wp_cmd_standAt, Sem.wp_pure']; exact h Γ _ hi hL
theorem wpR_runOwn {c : Code} {h : Option Value} {Q : Flow → Shared → Prop} (hl : cleanCode c = true)
    (hc : codeR M (A.mark h) c (fun r s' => match r with | .ok f => Q f s' | .error e => cameBackBy M A env E e s') s) (hnb : h ≠ some byPass := by intro x; cases x) : wpR M A (runOwn c env h) Q E s := by
  unfold runOwn
  exact wpR_onRaise (wpR_run hl hc hnb)
theorem wpR_For {target iter : Expr} {body orelse : List Stmt} {pos : Pos} {Q : Flow → Shared → Prop}
    (h : wpAny M A (eval iter env) (fun x s₁ => wpAny M A (pyIter x) (fun it s₂ =>
      codeR M A (.forLoop target it body orelse env) (fun r s' => match r with | .ok f => Q f s' | .error e => cameBackBy M A env E e s') s₂) E s₁) E s)
    (hs : ∀ x, foldedSetIterable iter env x = pure x := by intro _; rfl) : wpR M A (exec (.For target iter body orelse pos) env) Q E s := by
  rw [exec_For]
  refine wpR_bindA (wpAny_standAt (wpR_bindA (wpAny_mono h (fun x s₁ h₁ => ?_) fun _ _ x => x)))
  refine wpR_bindA (wpAny_of_eq (hs x) (wpR_bindA (wpAny_standAt (wpR_bindA (wpAny_holding (wpAny_mono h₁ (fun it s₂ h₂ => ?_) fun _ _ x => x))))))
  exact wpR_runOwn rfl h₂
end

section
variable {prog : Program} {w : World} {A : Around} {s : Shared} {env : Env}
theorem wpR_noted {α : Type} {M : Model} {E : Value → Shared → Prop} {t : Sem α} {Q : α → Shared → Prop} (h : wpR M A t Q (notedBy M A env E) s) : wpR M A (t.onRaise fun x => do noteFrame x env; theTreesLotGoes x) Q E s :=
  wpR_onRaise (wpR_mono h (fun _ _ q => q) fun _ _ hx => wpAny_bind (wpAny_mono hx (fun _ _ e => wpAny_theTreesLotGoes e) fun _ _ e => e))
theorem codeR_forLoop {R : Result → Shared → Prop} {target : Expr} {it : Value} {body : List Stmt} (I : Nat → Shared → Prop)
    (turn : ∀ n s, I n s → wpAny (model prog w) A (pyNext it) (fun r s₁ => match r with
      | none => R (.ok .next) s₁
      | some v => wpAny (model prog w) A (letOwnedTupleGo target it v) (fun _ s₁' => wpAny (model prog w) A (assign target env v) (fun _ s₂ => wpR (model prog w) A (execs body env) (fun f s₃ => match f with
            | .next | .cont => ∃ m, m < n ∧ I m s₃
            | .brk => R (.ok .next) s₃
            | .ret v => R (.ok (.ret v)) s₃) (notedBy (model prog w) A env fun e s' => R (.error e) s') s₂) (notedBy (model prog w) A env fun e s' => R (.error e) s') s₁') (notedBy (model prog w) A env fun e s' => R (.error e) s') s₁) (notedBy (model prog w) A env fun e s' => R (.error e) s') s)
    (n : Nat) (h : I n s) : codeR (model prog w) A (.forLoop target it body [] env) R s := by
  refine codeR_loop rfl rfl I (fun n s hI => ?_) n h
  show wpR _ A ((forTurn target it body [] env).onRaise (fun x => do noteFrame x env; theTreesLotGoes x)) _ _ s
  refine wpR_noted ?_
  simp only [forTurn]
  refine wpR_bindA (wpAny_standAt (wpR_bindA (wpAny_onRaise (wpAny_mono (turn n s hI) (fun r s₁ h₁ => ?_) fun _ _ h' => wpAny_standAt h'))))
  cases r with
  | none => exact wpR_pure (.inr ⟨rfl, rfl, codeR_of (codeAny_block (wpAny_execs_nil h₁))⟩)
  | some v =>
    refine wpR_bindA (wpAny_mono h₁ (fun _ s₁' h₁' => ?_) fun _ _ x => x)
    refine wpR_bindA (wpAny_mono h₁' (fun _ s₂ h₂ => wpR_bind (wpR_mono h₂ (fun f s₃ h₃ => ?_) fun _ _ x => x)) fun _ _ x => x)
    cases f with
    | next => exact wpR_pure (.inl ⟨rfl, h₃⟩)
    | cont => exact wpR_pure (.inl ⟨rfl, h₃⟩)
    | brk => exact wpR_pure h₃
    | ret v => exact wpR_pure h₃
end
end Own
end
section
open PySem PySem.W PyProof.Rows PySem.Calls
namespace Own
open PySem.Builtin

namespace FX
theorem slot_ba_extend : Slot "bytearray" "extend" "bytearray.extend" :=
  .of (owner := "bytearray") (n := "extend") (by rw [typeLookup_type, builtinLookup_eq_fast]; kernel_rfl) (by decide +kernel) (by decide +kernel) (by decide +kernel)
    (by first | exact .inl (by decide +kernel) | exact .inr (by decide +kernel)) (by rw [isSubtype_type]; kernel_rfl)
theorem entry_ba_extend : entryFor table "bytearray.extend" = some Builtin.«bytearray.extend» := by first | exact entryFor_of_tree (by kernel_rfl) | exact entryFor_of_fast (by kernel_rfl)
theorem entry_ba_extend_loop : entryFor table "bytearray.extend.loop" = some Builtin.«bytearray.extend.loop» := by first | exact entryFor_of_tree (by kernel_rfl) | exact entryFor_of_fast (by kernel_rfl)
theorem entry_ba_extend_end : entryFor table "bytearray.extend.end" = some Builtin.«bytearray.extend.end» := by first | exact entryFor_of_tree (by kernel_rfl) | exact entryFor_of_fast (by kernel_rfl)
theorem plain_loop : plainId "bytearray.extend.loop" = true := by decide +kernel
theorem plain_end : plainId "bytearray.extend.end" = true := by decide +kernel
theorem args_ba_extend (a b : Value) : argsOk "bytearray.extend" ⟨[a, b], []⟩ := by unfold argsOk; kernel_rfl
theorem ba_getattribute : typeLookup (.type "bytearray") "__getattribute__" = pure (some (.builtin "bytearray.__getattribute__")) := by rw [typeLookup_type, builtinLookup_eq_fast]; kernel_rfl
theorem ba_getattr : typeLookup (.type "bytearray") "__getattr__" = pure none := by rw [typeLookup_type, builtinLookup_eq_fast]; kernel_rfl
theorem type_ba_extend : typeOf (.builtin "bytearray.extend") = pure (.type "method_descriptor") := by kernel_rfl
theorem canon_ba : (Manifest.canonical "bytearray.__getattribute__" != "object.__getattribute__") = false := by decide +kernel
theorem ba_buffer : typeLookup (.type "bytearray") "__buffer__" = pure (some (.builtin "bytearray.__buffer__")) := by rw [typeLookup_type, builtinLookup_eq_fast]; kernel_rfl
theorem gen_buffer : typeLookup (.type "generator") "__buffer__" = pure none := by rw [typeLookup_type, builtinLookup_eq_fast]; kernel_rfl
theorem gen_len : typeLookup (.type "generator") "__len__" = pure none := by rw [typeLookup_type, builtinLookup_eq_fast]; kernel_rfl
theorem gen_hint : typeLookup (.type "generator") "__length_hint__" = pure none := by rw [typeLookup_type, builtinLookup_eq_fast]; kernel_rfl
end FX

abbrev baObj (bs : List Int) : Obj := { cls := .type "bytearray", data := .bytearray (byteArr bs) }

section
variable {M : Model} {A : Around} {E : Value → Shared → Prop} {s : Shared}

theorem wpR_exported {self : Value} {Q : Bool → Shared → Prop} (h : Q false s) : wpR M A (Bytes.exported self) Q E s := fun Γ p hi hL => by
  have hall : ∀ x ∈ (Γ.code, p) :: Γ.below, cleanCode x.1 = true := fun x hx => by
    rcases List.mem_cons.mp hx with rfl | hx
    · exact hL.1
    · exact hL.2 x hx
  generalize hst : (Γ.code, p) :: Γ.below = st at hall
  have hs : Sem.wp M Γ (Bytes.exported self) (fun a _ s' => Q a s') (fun e _ s' => E e s') p s = Sem.wp M Γ (stack >>= fun st => pure (st.any _)) (fun a _ s' => Q a s') (fun e _ s' => E e s') p s := rfl
  rw [hs, Sem.wp_bind']
  show Q (((Γ.code, p) :: Γ.below).any _) s
  rw [hst, List.any_eq_false.mpr ?_]
  · exact h
  · rintro ⟨c, q⟩ hx
    have hc := hall _ hx
    dsimp only at hc ⊢
    rw [Bool.not_eq_true]
    split
    · rename_i e; cases e; exact absurd (show cleanId _ = true from hc) (by decide +kernel)
    · rename_i e; cases e; exact absurd (show cleanId _ = true from hc) (by decide +kernel)
    · rename_i e; cases e; exact absurd (show cleanId _ = true from hc) (by decide +kernel)
    · rename_i e; cases e; exact absurd (show cleanId _ = true from hc) (by decide +kernel)
    · rename_i e; cases e; exact absurd (show cleanId _ = true from hc) (by decide +kernel)
    · rename_i e
      cases e
      have hb := hc
      simp only [cleanCode, cleanId, badIds, List.contains_append, Bool.not_eq_true', Bool.or_eq_false_iff] at hb
      rw [hb.2, Bool.and_false]
    · rfl

theorem wpAny_bm {α : Type} {c : Bool} {a b : Sem α} {Q : α → Shared → Prop} (hc : c = false) (h : wpAny M A b Q E s) : wpAny M A (if c = true then a else b) Q E s := by subst hc; exact h
theorem wpR_iteF {α : Type} {c : Bool} {a b : Sem α} {Q : α → Shared → Prop} (hc : c = false) (h : wpR M A b Q E s) : wpR M A (if c = true then a else b) Q E s := by subst hc; exact h
theorem wpR_iteT {α : Type} {c : Bool} {a b : Sem α} {Q : α → Shared → Prop} (hc : c = true) (h : wpR M A a Q E s) : wpR M A (if c = true then a else b) Q E s := by subst hc; exact h

theorem wpR_checkResize {d : Addr} {bs : List Int} {Q : Unit → Shared → Prop} (ho : s.heap.get? d = some (baObj bs)) (h : Q () s) : wpR M A (Bytes.checkResize (.ref d)) Q E s := by
  unfold Bytes.checkResize
  refine wpR_bind (wpR_bind (wpR_exported ?_))
  show wpR _ _ (Bytes.exportsOf (.ref d) >>= fun n => pure (decide (n > 0))) _ _ _
  refine wpR_bindA ?_
  unfold Bytes.exportsOf
  refine wpAny_bind (wpAny_load ho (wpAny_pure (wpR_pure ?_)))
  exact wpR_iteF rfl (wpR_pure h)

theorem ba_write {d : Addr} {bs bs' : List Int} {f : Array UInt8 → Array UInt8} {Q : Unit → Shared → Prop} (ho : s.heap.get? d = some (baObj bs)) (hf : f (byteArr bs) = byteArr bs') (hz : bs'.length ≤ sizeLine)
    (h : ∀ h', h'.get? d = some (baObj bs') → Heap.SameBut d s.heap h' → Q () { s with heap := h' }) : wpAny M A (Bytes.write (.ref d) f) Q E s := by
  show wpAny _ _ (updateBytearray d f) _ _ _
  unfold updateBytearray
  refine wpAny_bind (wpAny_load ho ?_)
  show wpAny _ _ (update d (Obj.mapBytearray f) >>= fun _ => lookBehind d) _ _ _
  refine wpAny_bind (wpAny_update ho ?_)
  have hn : (s.heap.update d (Obj.mapBytearray f)).get? d = some (baObj bs') := by
    have := Heap.get?_update_self (Obj.mapBytearray f) ho rfl
    rw [this]
    show some (⟨.type "bytearray", none, .bytearray (f (byteArr bs)) 0, #[]⟩ : Obj) = _
    rw [hf]
  refine wpAny_lookBehind hn ?_ (h _ hn (Heap.SameBut.update ..))
  show (if (byteArr bs').size > sizeLine then some "bytearray:memory" else none) = none
  rw [if_neg]
  rw [byteArr_size]; omega

theorem ba_payload {d : Addr} {bs : List Int} {Q : Array UInt8 → Shared → Prop} (ho : s.heap.get? d = some (baObj bs)) (h : Q (byteArr bs) s) : wpAny M A (Bytes.payload (.ref d)) Q E s := by
  unfold Bytes.payload Bytes.payload?
  exact wpAny_bind (wpAny_bind (wpAny_load ho (wpAny_pure (wpAny_pure h))))
theorem byteArr_append (a b : List Int) : byteArr (a ++ b) = byteArr a ++ byteArr b := by simp [byteArr]
end

section
variable {prog : Program} {w : World} {A : Around} {E : Value → Shared → Prop} {s : Shared}

theorem codeR_builtin {id : String} {args : Args} {b : Builtin} {R : Result → Shared → Prop} (hq : plainId id = true) (hb : entryFor table id = some b)
    (h : wpR (model prog w) A.in1 (b args) (fun fin s' => match fin with | .done f => R (.ok f) s' | .again c' => c'.quiet = true ∧ cleanCode c' = true ∧ codeR (model prog w) A c' R s') (fun e s' => R (.error e) s') s) :
    codeR (model prog w) A (.builtin id args) R s := by
  refine codeR_of_tree ?_
  rw [Around.under_plainId hq args]
  show wpR _ _ (match entryFor table id with | some b => b args | none => unsupported ((withoutEnding? id "#data").getD id)) _ _ s
  rw [hb]; exact h
theorem codeR_call_builtin {id : String} {args : Args} {b : Builtin} {R : Result → Shared → Prop} (hq : plainId id = true) (hb : entryFor table id = some b) (hl : cleanId id = true)
    (h : wpAny (model prog w) A.in1 (checkBuiltinCall id args) (fun _ s₁ => wpR (model prog w) A.in1 (b args) (fun fin s' => match fin with | .done f => R (.ok f) s' | .again c' => c'.quiet = true ∧ cleanCode c' = true ∧ codeR (model prog w) A c' R s') (fun e s' => R (.error e) s') s₁) (fun e s' => R (.error e) s') s) :
    codeR (model prog w) A (.call (.builtin id) args) R s := by
  refine codeR_of_tree ?_
  show wpR _ A.in1 (do checkBuiltinCall id args; again (.builtin id args)) _ _ s
  exact wpR_bindA (wpAny_mono h (fun _ s₁ h₁ => wpR_pure ⟨plainId_quiet hq args, hl, codeR_builtin hq hb h₁⟩) fun _ _ x => x)
theorem wpR_call_entry {T : String} {name : Str} {id : String} {b : Builtin} {self : Value} {rest : List Value} {Q : Value → Shared → Prop} (h : Slot T name id) (hT : s.TypeIs self T) (hb : entryFor table id = some b) (hl : cleanId id = true)
    (ha : argsOk id ⟨self :: rest, []⟩)
    (hc : wpR (model prog w) A.in1 (b ⟨self :: rest, []⟩) (fun fin s' => match fin with | .done (.ret v) => Q v s' | .done _ => False | .again c' => c'.quiet = true ∧ cleanCode c' = true ∧ codeR (model prog w) A c' (fun r s' => match r with | .ok (.ret v) => Q v s' | .ok _ => False | .error e => E e s') s') E s) :
    wpR (model prog w) A (call (.builtin id) (self :: rest)) Q E s := by
  refine wpR_call (codeR_call_builtin h.plain hb hl (h.check _ _ _ _ _ _ _ _ hT ha (wpR_mono hc (fun fin s' h' => ?_) fun _ _ x => x)))
  cases fin with
  | done f => cases f <;> first | exact h' | exact h'.elim
  | again c => exact h'

theorem codeR_extend_end {self : Addr} {it : Value} {T : Addr} {bs more : List Int} {R : Result → Shared → Prop} (hT : s.heap.get? T = some (baObj more)) (ho : s.heap.get? self = some (baObj bs)) (hz : (bs ++ more).length ≤ sizeLine)
    (h : ∀ h', h'.get? self = some (baObj (bs ++ more)) → Heap.SameBut self s.heap h' → R (.ok (.ret .none)) { s with heap := h' }) :
    codeR (model prog w) A (.builtin "bytearray.extend.end" ⟨[.ref self, it, .ref T], []⟩) R s := by
  refine codeR_builtin FX.plain_end FX.entry_ba_extend_end ?_
  unfold «bytearray.extend.end»
  dsimp only
  refine wpR_bindA (wpAny_point (wpR_bindA (ba_payload hT ?_)))
  have hw : ∀ u : Unit, wpR (model prog w) A.in1 (Bytes.write (.ref self) (· ++ byteArr more) >>= fun _ => ret .none) (fun fin s' => match fin with | .done f => R (.ok f) s' | .again c' => c'.quiet = true ∧ cleanCode c' = true ∧ codeR (model prog w) A c' R s') (fun e s' => R (.error e) s') s := fun _ =>
    wpR_bindA (ba_write ho (byteArr_append bs more).symm hz fun h' h1 h2 => wpR_pure (h h' h1 h2))
  show wpR _ _ (if (!(byteArr more).isEmpty) = true then (Bytes.checkResize (.ref self) >>= fun u => Bytes.write (.ref self) (· ++ byteArr more) >>= fun _ => ret .none) else (pure () >>= fun _ => Bytes.write (.ref self) (· ++ byteArr more) >>= fun _ => ret .none)) _ _ s
  by_cases he : (!(byteArr more).isEmpty) = true
  · rw [if_pos he]; exact wpR_bind (wpR_checkResize ho (hw ()))
  · rw [if_neg he]; exact wpR_bind (wpR_pure (hw ()))

theorem Moved.step {wr wr' : List Addr} {G : Array GenState → Array GenState → Prop} (ht : ∀ a b c, G a b → G b c → G a c) {s s₁ s₂ : Shared} (x : Moved wr G s s₁) (y : Moved wr' G s₁ s₂) (hw : ∀ b ∈ wr', b ∈ wr) : Moved wr G s s₂ :=
  ⟨fun b o hb e => y.heap b o (fun h => hb (hw b h)) (x.heap b o hb e), ht _ _ _ x.gens y.gens, y.drawn.trans x.drawn, y.os.trans x.os, Nat.le_trans x.toks y.toks⟩

theorem codeR_extend_loop {self it : Value} {I T : Addr} {fp wr : List Addr} {G : Array GenState → Array GenState → Prop} {n : Nat} {P : Nat → Value → Prop} {St : Nat → Shared → Prop} {val : Nat → Int} {R : Result → Shared → Prop}
    (W : WalksS prog w A.in1 I fp wr G n P St) (hval : ∀ i v, P i v → ∃ t, v = .int (val i) t) (hr : ∀ i, i < n → 0 ≤ val i ∧ val i < 256) (hT : T ∉ fp) (hz : n ≤ sizeLine)
    (fin : ∀ s', Moved (T :: wr) G s s' → s'.heap.get? T = some (baObj ((List.range n).map val)) → codeR (model prog w) A (.builtin "bytearray.extend.end" ⟨[self, it, .ref T], []⟩) R s') :
    ∀ (k i : Nat) (s₁ : Shared), n - i = k → i ≤ n → St i s₁ → Moved (T :: wr) G s s₁ → s₁.heap.get? T = some (baObj ((List.range i).map val)) →
      codeR (model prog w) A (.builtin "bytearray.extend.loop" ⟨[self, it, .ref I, .ref T], []⟩) R s₁ := by
  have hTw : T ∉ wr := fun h => hT (W.sub T h)
  intro k
  induction k with
  | zero =>
    intro i s₁ hk hi hst hm hb
    have hin : i = n := by omega
    subst hin
    refine codeR_builtin FX.plain_loop FX.entry_ba_extend_loop ?_
    unfold «bytearray.extend.loop»
    dsimp only
    refine wpR_bindA (W.done s₁ _ _ hst fun s' hm' => ?_)
    refine wpR_pure ⟨plainId_quiet FX.plain_end _, (show cleanId "bytearray.extend.end" = true by decide +kernel), fin s' (Moved.step W.gtrans hm hm' fun b hb => List.mem_cons_of_mem _ hb) ?_⟩
    exact hm'.heap T _ hTw hb
  | succ k ih =>
    intro i s₁ hk hi hst hm hb
    have hlt : i < n := by omega
    refine codeR_builtin FX.plain_loop FX.entry_ba_extend_loop ?_
    unfold «bytearray.extend.loop»
    dsimp only
    refine wpR_bindA (W.item i s₁ _ _ hlt hst fun v s' hP hst' hm' => ?_)
    obtain ⟨t, rfl⟩ := hval i v hP
    obtain ⟨h0, h1⟩ := hr i hlt
    dsimp only
    have hb' : s'.heap.get? T = some (baObj ((List.range i).map val)) := hm'.heap T _ hTw hb
    refine wpR_bindA (wpAny_tryCatch (wpAny_holding ?_))
    unfold Bytes.byteValue
    refine wpAny_bind (wpAny_of_eq (rfl : asIndex (.int (val i) t) = pure (val i)) ?_)
    refine wpAny_bm (by simp only [Bool.or_eq_false_iff, decide_eq_false_iff_not]; omega) ?_
    refine wpAny_pure (wpR_bindA (wpAny_letGo (wpR_bindA ?_)))
    have e : (List.range (i + 1)).map val = (List.range i).map val ++ [val i] := by rw [List.range_succ, List.map_append]; rfl
    refine ba_write hb' (bs' := (List.range (i + 1)).map val) (by rw [e, byteArr_append]; simp [byteArr]) (by simp; omega) fun h' hT' hs' => ?_
    obtain ⟨hp, gn, dr, tk, os⟩ := s'
    have mv : Moved (T :: wr) G s ⟨h', gn, dr, tk, os⟩ := Moved.step W.gtrans (Moved.step W.gtrans hm hm' fun b hb => List.mem_cons_of_mem _ hb)
      (⟨fun b o hb e => hs'.extBut b o (fun h => hb (h ▸ List.mem_cons_self ..)) e, W.grefl _, rfl, rfl, Nat.le_refl _⟩ : Moved [T] G ⟨hp, gn, dr, tk, os⟩ ⟨h', gn, dr, tk, os⟩) (fun b hb => by rw [List.mem_singleton.mp hb]; exact List.mem_cons_self ..)
    exact wpR_pure ⟨plainId_quiet FX.plain_loop _, (show cleanId "bytearray.extend.loop" = true by decide +kernel), ih (i + 1) _ (by omega) hlt (W.frame (i + 1) _ h' tk hst' (Nat.le_refl _) fun b hbf o e => hs'.extBut b o (fun h => hT (h ▸ hbf)) e) mv hT'⟩

theorem ba_typeIs {d : Addr} {bs : List Int} (ho : s.heap.get? d = some (baObj bs)) : s.TypeIs (.ref d) "bytearray" := ⟨_, ho, rfl⟩

/-- d.extend(generator): the items, one behind the other -/
theorem wpR_extend_gen {d I : Addr} {bs : List Int} {fp wr : List Addr} {G : Array GenState → Array GenState → Prop} {n : Nat} {P : Nat → Value → Prop} {St : Nat → Shared → Prop} {val : Nat → Int} {Q : Value → Shared → Prop}
    (ho : s.heap.get? d = some (baObj bs)) (hgen : s.TypeIs (.ref I) "generator") (W : WalksS prog w A.in1 I fp wr G n P St) (hst : St 0 s) (hfp : ∀ b ∈ fp, b < s.heap.objs.size)
    (hval : ∀ i v, P i v → ∃ t, v = .int (val i) t) (hr : ∀ i, i < n → 0 ≤ val i ∧ val i < 256) (hd : d ∉ wr) (hz : bs.length + n ≤ sizeLine)
    (h : ∀ s', Moved (d :: wr) G s s' → s'.heap.get? d = some (baObj (bs ++ (List.range n).map val)) → Q .none s') :
    wpR (model prog w) A (call (.builtin "bytearray.extend") [.ref d, .ref I]) Q E s := by
  refine wpR_call_entry FX.slot_ba_extend (ba_typeIs ho) FX.entry_ba_extend (by decide +kernel) (FX.args_ba_extend _ _) ?_
  unfold «bytearray.extend»
  refine wpR_bindA (wpAny_of_eq (a := (.ref d, .ref I)) rfl ?_)
  dsimp only
  refine wpR_bindA (wpAny_specialOf hgen FX.gen_buffer ?_)
  show wpR _ _ ((pyIter (.ref I)).tryCatch _ >>= _) _ _ _
  refine wpR_bindA (wpAny_tryCatch (W.self 0 s _ _ hst ?_))
  refine wpR_bindA (wpAny_holding ?_)
  unfold Bytes.lengthHint
  refine wpAny_bind (wpAny_specialOf hgen FX.gen_len ?_)
  dsimp only
  show wpAny _ _ (specialOf (.ref I) "__length_hint__" >>= _) _ _ _
  refine wpAny_bind (wpAny_specialOf hgen FX.gen_hint (wpAny_pure ?_))
  show wpR _ _ (Bytes.newBytearray #[] >>= _) _ _ _
  refine wpR_bindA (wpAny_newObj_type ?_ (by show (0 : Nat) ≤ sizeLine; decide))
  obtain ⟨hp, gn, dr, tk, os⟩ := s
  have hT : hp.objs.size ∉ fp := fun hm => Nat.lt_irrefl _ (hfp _ hm)
  have hdT : d ≠ hp.objs.size := Nat.ne_of_lt (Heap.lt_size ho)
  have hTn : (hp.push (baObj [])).get? hp.objs.size = some (baObj ((List.range 0).map val)) := Heap.get?_push_size _ rfl
  have hst' : St 0 ⟨hp.push (baObj []), gn, dr, tk, os⟩ := W.frame 0 _ _ tk hst (Nat.le_refl _) fun b _ o e => Heap.get?_push_of_some _ e
  refine wpR_pure ⟨plainId_quiet FX.plain_loop _, (show cleanId "bytearray.extend.loop" = true by decide +kernel), ?_⟩
  refine codeR_extend_loop (s := ⟨hp.push (baObj []), gn, dr, tk, os⟩) W hval hr hT (by omega) (fun s' hm hTs => ?_) n 0 _ rfl (Nat.zero_le _) hst' ⟨fun b o _ e => e, W.grefl _, rfl, rfl, Nat.le_refl _⟩ hTn
  have hd' : s'.heap.get? d = some (baObj bs) := hm.heap d _ (fun h => (List.mem_cons.mp h).elim hdT hd) (Heap.get?_push_of_some _ ho)
  refine codeR_extend_end hTs hd' (by simp; omega) fun h' h1 h2 => ?_
  obtain ⟨hp', gn', dr', tk', os'⟩ := s'
  refine h _ ⟨fun b o hb e => h2.extBut b o (fun q => hb (q ▸ List.mem_cons_self ..)) (hm.heap b o (fun q => ?_) (Heap.get?_push_of_some _ e)), hm.gens, hm.drawn, hm.os, hm.toks⟩ h1
  rcases List.mem_cons.mp q with q | q
  · exact absurd (q ▸ Heap.lt_size e) (Nat.lt_irrefl _)
  · exact hb (List.mem_cons_of_mem _ q)

theorem getMethod_ba_extend {d : Addr} {bs : List Int} {pl : Sem Bool} {Q : Value × List Value → Shared → Prop} (ho : s.heap.get? d = some (baObj bs))
    (h : Q (.builtin "bytearray.extend", [.ref d]) s) : wpAny (model prog w) A (getMethod (.ref d) "extend" pl) Q E s := by
  have hT := ba_typeIs ho
  unfold getMethod
  refine wpAny_bind (wpAny_specialOf hT FX.ba_getattribute ?_)
  show wpAny _ A (if (Manifest.canonical "bytearray.__getattribute__" != "object.__getattribute__") = true then _ else _) Q E s
  rw [FX.canon_ba, if_neg Bool.false_ne_true]
  refine wpAny_bind (wpAny_specialOf hT FX.ba_getattr ?_)
  refine wpAny_bind (wpAny_specialOf hT FX.slot_ba_extend.lookup ?_)
  refine wpAny_bind (wpAny_of_eq FX.type_ba_extend ?_)
  refine wpAny_bind (wpAny_load ho ?_)
  exact wpAny_bind (wpAny_rule (wpAny_pure h))

namespace FX
theorem sub_ri_reversed : isSubtype (.type "range_iterator") (.type "reversed") = pure false := by rw [isSubtype_type]; kernel_rfl
end FX
theorem rangeSize_up (n : Nat) : Range.rangeSize 0 (n : Int) 1 = n := by
  unfold Range.rangeSize
  rw [if_pos (by decide)]
  by_cases h : (0 : Int) < n
  · rw [if_pos h]; simp
  · rw [if_neg h]; omega
abbrev riObj (x left step : Int) : Obj := { cls := .type "range_iterator", dict := none, data := .fields #[rawInt x, rawInt left, rawInt step], slots := #[] }

theorem asInt_int (i : Int) (t : Tok) : asInt? (.int i t) = pure (some i) := rfl
theorem call_range_reversed {r : Addr} {n : Nat} {t u v : Tok} {Q : Value → Shared → Prop} (hr : IsRange s.heap r 0 n 1 t u v) (hn : n ≤ 1048576)
    (h : Q (.ref s.heap.objs.size) { s with heap := s.heap.push (riObj ((n : Int) - 1) n (-1)) }) : wpAny (model prog w) A (call (.builtin "range.__reversed__") [.ref r]) Q E s := by
  have hT : s.TypeIs (.ref r) "range" := ⟨_, hr, rfl⟩
  refine wpAny_call_entry F.slot_range_reversed hT F.entry_range_reversed ?_ (F.args_range_reversed_1 _)
  unfold «range.__reversed__»
  refine wpAny_bind (wpAny_of_eq (a := .ref r) rfl ?_)
  unfold Range.rangeFields
  refine wpAny_bind (wpAny_bind (wpAny_field hr rfl (x := .int 0 t) rfl (wpAny_bind (wpAny_of_eq (asInt_int _ _) ?_))))
  refine wpAny_bind (wpAny_field hr rfl (x := .int n u) rfl (wpAny_bind (wpAny_of_eq (asInt_int _ _) ?_)))
  refine wpAny_bind (wpAny_field hr rfl (x := .int 1 v) rfl ?_)
  refine wpAny_bind ?_
  rw [asInt_int]
  refine wpAny_pure ?_
  refine wpAny_pure ?_
  dsimp only
  rw [rangeSize_up]
  have hs : (Range.rangeFitsLong 0 && Range.rangeFitsLong (n : Int) && Range.rangeFitsLong 1 && Range.rangeFitsLong (-1) && Range.rangeFitsLong (0 - 1) && Range.rangeFitsLong (n : Int)) = true := by
    simp only [Range.rangeFitsLong, Bool.and_eq_true, decide_eq_true_eq]; omega
  simp only [hs, Bool.not_true, Bool.false_eq_true, if_false, if_true]
  have e : (0 + ((n : Int) - 1) * 1) = (n : Int) - 1 := by omega
  rw [e]
  exact wpAny_bind (wpAny_newObj_type (wpAny_pure ⟨_, rfl, h⟩) (by size_fits))

theorem code_reversed_range {r : Addr} {n : Nat} {t u v : Tok} {Q₁ : Value → Shared → Prop} (hr : IsRange s.heap r 0 n 1 t u v) (hn : n ≤ 1048576)
    (h : Q₁ (.ref s.heap.objs.size) { s with heap := s.heap.push (riObj ((n : Int) - 1) n (-1)) }) :
    codeAny (model prog w) A (.call (.builtin "reversed.__new__") ⟨[.type "reversed", .ref r], []⟩) (wants Q₁ E) s := by
  have hT : s.TypeIs (.ref r) "range" := ⟨_, hr, rfl⟩
  refine codeAny_call_builtin F.plain_reversed_new F.entry_reversed_new (wpAny_of_eq (F.newCall_reversed_1 _) ?_)
  unfold «reversed.__new__»
  refine wpAny_bind (wpAny_of_eq (newClass_reversed _) ?_)
  dsimp only
  refine wpAny_bind (wpAny_of_eq (a := ()) (by first | rfl | kernel_rfl) (wpAny_bind (wpAny_of_eq (a := ()) (by first | rfl | kernel_rfl) ?_)))
  try dsimp only
  refine wpAny_bind (wpAny_specialOf hT F.slot_range_reversed.lookup (wpAny_bind (wpAny_of_eq (F.slot_range_reversed.bind _) ?_)))
  try dsimp only
  rw [if_neg (show ¬ ((Value.builtin "range.__reversed__" == Value.none) = true) from by decide)]
  refine wpAny_bind (wpAny_rule ?_)
  refine wpAny_bind (show wpAny _ _ (call (.builtin "range.__reversed__") [.ref r]) _ _ _ from call_range_reversed hr hn ?_)
  first
  | exact wpAny_pure h
  | exact wpAny_bind (wpAny_pure (wpAny_pure h))

theorem call_reversed_range {r : Addr} {n : Nat} {t u v : Tok} {Q : Value → Shared → Prop} (hr : IsRange s.heap r 0 n 1 t u v) (hn : n ≤ 1048576)
    (h : Q (.ref s.heap.objs.size) { s with heap := s.heap.push (riObj ((n : Int) - 1) n (-1)) }) : wpAny (model prog w) A (call (.type "reversed") [.ref r]) Q E s := by
  refine callType_other (U := "range_iterator") (Q₁ := fun obj s₁ => obj = .ref s.heap.objs.size ∧ s₁ = { s with heap := s.heap.push (riObj ((n : Int) - 1) n (-1)) }) (by decide +kernel) F.create_reversed ⟨_, _, F.mro_reversed⟩ F.made_reversed FX.sub_ri_reversed (F.typeCall_reversed_1 _) (code_reversed_range hr hn ⟨rfl, rfl⟩) ?_
  rintro obj s₁ ⟨rfl, rfl⟩
  exact ⟨⟨_, Heap.get?_push_size _ rfl, rfl⟩, h⟩
end
end Own
end
section
open PySem PySem.W PyProof.Rows PySem.Calls PySem.Spec
namespace Own
section
variable {prog : Program} {w : World} {A : Around} {s : Shared} {R : Result → Shared → Prop}
theorem codeR_func {body : List Stmt} {env : Env}
    (h : wpR (model prog w) (A.deeper env) (execs body env) (fun f s' => R (.ok (.ret (match f with | .ret v => v | _ => .none))) s')
      (fun e s' => wpAny (model prog w) (A.deeper env) (leaving env e) (fun _ s'' => R (.error e) s'') (fun e' s'' => R (.error e') s'') s') s) :
    codeR (model prog w) A (.func body env) R s := by
  refine codeR_of_tree ?_
  show wpR _ (A.deeper env) (do point; match ← (execs body env).onRaise (leaving env) with | .ret v => ret v | _ => ret .none) _ _ s
  refine wpR_bindA (wpAny_point (wpR_bind (wpR_onRaise (wpR_mono h (fun f s' h' => ?_) fun _ _ x => x))))
  cases f <;> exact wpR_pure h'
theorem codeR_call_function {a : Addr} {args : Args} {o : Obj} {fd : FuncData} {body : List Stmt} (hroom : A.depth < recursionLimit) (ho : s.heap.get? a = some o)
    (hd' : o.data = .func fd) (hco : fd.scope.isCoroutine = false) (hgen : fd.scope.isGenerator = false) (hbody : fd.body = .stmts body) (hcd : s.heap.CodeRec fd.code fd.qualname)
    (h : wpAny (model prog w) A.in1 (bindArgs fd args) (fun binds s₁ =>
      wpAny (model prog w) A.in1 (newFunctionEnv fd.scope fd.globals fd.closure binds (fd.qualname ++ ".<locals>.") (some a) fd.code none fd.builtins)
        (fun env s₂ => s₂.heap.NoLimit ∧ codeR (model prog w) A (.func body env) R s₂) (fun e s' => R (.error e) s') s₁) (fun e s' => R (.error e) s') s) :
    codeR (model prog w) A (.call (.ref a) args) R s := by
  refine codeR_of_tree ?_
  obtain ⟨c, oc, vs, tq, hc, hoc, hdc, hq⟩ := hcd
  show wpR _ A.in1 (callAny (.ref a) args) _ _ s
  simp only [callAny]
  refine wpR_bindA (wpAny_load ho ?_)
  simp only [hd', callFunction, hco, hgen, hbody, hc]
  rw [hc] at h
  refine wpR_bindA (t := field (.ref c) 1) (wpAny_field hoc hdc hq (wpR_bindA (wpAny_pure (wpR_bindA (wpAny_mono h (fun binds s₁ h₁ => wpR_bindA (wpAny_mono h₁ (fun env s₂ h₂ => ?_) fun _ _ x => x)) fun _ _ x => x)))))
  exact wpR_bindA (wpAny_enterFrame h₂.1 hroom (wpR_pure ⟨rfl, rfl, h₂.2⟩))
theorem codeR_call_def {a : Addr} {o : Obj} {fd : FuncData} {body : List Stmt} {args : Args} {binds : List (Str × Value)}
    (hroom : A.depth < recursionLimit) (ho : s.heap.get? a = some o) (hdata : o.data = .func fd) (hlim : s.heap.NoLimit) (hcd : s.heap.CodeRec fd.code fd.qualname)
    (hbody : fd.body = .stmts body) (hbind : BindsTo s fd args binds) (hcell : ∀ x ∈ fd.scope.names, x.2 ≠ .cell) (hloc : ∀ x ∈ binds, fd.scope.names.lookup x.1 = some .local)
    (h : ∀ h₀, h₀.Ns s.heap.objs.size (fun x => binds.reverse.lookup x) → (∀ b o, s.heap.get? b = some o → h₀.get? b = some o) →
      wpR (model prog w) (A.deeper (callEnv fd s.heap.objs.size a)) (execs body (callEnv fd s.heap.objs.size a)) (fun f s' => R (.ok (.ret (match f with | .ret v => v | _ => .none))) s')
        (fun e s' => wpAny (model prog w) (A.deeper (callEnv fd s.heap.objs.size a)) (leaving (callEnv fd s.heap.objs.size a) e) (fun _ s'' => R (.error e) s'') (fun e' s'' => R (.error e') s'') s')
        { s with heap := h₀, toks := s.toks + binds.length })
    (hco : fd.scope.isCoroutine = false) (hgen : fd.scope.isGenerator = false) (hk : fd.scope.kind = .function) : codeR (model prog w) A (.call (.ref a) args) R s := by
  refine codeR_call_function hroom ho hdata hco hgen hbody hcd (hbind _ _ _ _ ?_)
  refine wpAny_newFunctionEnv hcell hloc (fun h₀ hn hsb => ⟨hlim.fresh _ hsb, codeR_func (h h₀ hn fun b o e => ?_)⟩) hk
  exact hsb.extBut b o (Nat.ne_of_lt (Heap.lt_size e)) (Heap.get?_push_of_some _ e)
end

def SpecR (prog : Program) (w : World) (K : Frag) (p : Program) (loose : List Str) (mg mb : Str → Option Value) (bm : Addr) (ob : Obj) (kd ku : Nat) (f : Addr) (pos : List Value) (kw : List (Str × Value)) (sub : Led) (P : Value → Led → Prop) : Prop :=
  ∀ (dp un : Nat) (gd : Option (List Code)) (cn : Str) (cs : Scope) (L a : Addr) (ccd : Value) (cl : List (Str × Addr)) (outer : List Env) (A₀ : Around) (base h₀ : Heap) (m : Str → Option Value) (news : Led) (s : Shared) (R : Result → Shared → Prop),
    Cx K p loose mg mb bm ob A₀ base outer h₀ → Fr h₀ L s.heap m → News h₀ L s.heap news → cs.kind = .function → (∀ q ∈ sub, q ∈ news) → AllBare s.gens → dp + kd < recursionLimit → un + ku < cLine →
    (∀ v nw h' tk' g', P v nw → Fr h₀ L h' m → (∀ l : Led, (∀ q ∈ l, q ∈ nw ∨ (q ∈ news ∧ q.1 ∉ sub.map (·.1))) → News h₀ L h' l) →
      (∀ q ∈ news, q.1 ∉ sub.map (·.1) → ∀ q' ∈ nw, q.1 ≠ q'.1) → AllBare g' → R (.ok (.ret v)) ⟨h', g', s.drawn, tk', s.os⟩) →
    codeR (model prog w) (ktrTop dp un gd cn cs L a ccd cl outer) (.call (.ref f) ⟨pos, kw⟩) R s

section
variable {prog : Program} {w : World} {K : Frag} {p : Program} {loose : List Str} {mg mb : Str → Option Value} {bm : Addr} {ob : Obj} {kd ku : Nat} {f : Addr} {sub : Led} {P : Value → Led → Prop}
theorem specR_of {name qual : Str} {params : Arguments} {body : List Stmt} {scope : Scope} {dV kV doc pm cdv ct oc : Value} {an od : Option Addr} {osl : Array (Option Value)} {pos : List Value} {kw : List (Str × Value)} {binds : List (Str × Value)}
    (ho : K.lookup f = some ⟨oc, od, .func (fnX name qual params body scope [] dV kV doc pm an cdv ct), osl⟩) (hcd : codeIn K cdv qual = true)
    (hbind : ∀ s : Shared, K.In s.heap → BindsTo s (fnX name qual params body scope [] dV kV doc pm an cdv ct) ⟨pos, kw⟩ binds)
    (hloc : ∀ y ∈ binds, scope.names.lookup y.1 = some .local) (hcell : ∀ x ∈ scope.names, x.2 ≠ .cell)
    (hb : ∀ (dp un : Nat) (gd : Option (List Code)) (L : Addr) (outer : List Env) (A₀ : Around) (base g h₁ : Heap) (gn : Array GenState) (d : Drawn) (tk : Nat) (os : OsState),
      Cx K p loose mg mb bm ob A₀ base outer g → Fr g L h₁ (fun y => binds.reverse.lookup y) → News g L h₁ sub → (∀ q ∈ sub, q.1 < L) → AllBare gn → dp + kd < recursionLimit + 1 → un + ku < cLine + 3 →
      wpR (model prog w) (ktrTop dp un gd qual scope L f cdv [] outer) (execs body (envX qual scope L f cdv [])) (fun fl s' => Ret g d os P (retOf fl) s') (fun _ _ => False) ⟨h₁, gn, d, tk, os⟩)
    (hco : scope.isCoroutine = false) (hgen : scope.isGenerator = false) (hk : scope.kind = .function) (hkd : 0 < kd) :
    SpecR prog w K p loose mg mb bm ob kd ku f pos kw sub P := by
  intro dp un gd cn cs L a ccd cl outer A₀ base h₀ m news s R C F N hcs hsub hG hd hu hret
  have Ns : News h₀ L s.heap sub := fun q hq => N q (hsub q hq)
  have X := C.X.keeps F.keep
  obtain ⟨FG, BG, st, lv⟩ := groundX (A := ktrTop dp un gd cn cs L a ccd cl outer) (env := envX cn cs L a ccd cl) (R := R) C.B F Ns rfl rfl hcs
  have hlim := C.T.nolimit.keeps F.keep
  refine codeR_call_def (fd := fnX name qual params body scope [] dV kV doc pm an cdv ct) (body := body) (binds := binds) (by show dp < recursionLimit; omega) (X _ _ ho) rfl hlim (codeRec_of X hcd) rfl (hbind s X) hcell hloc (fun h₁ hns hk₁ => ?_) hco hgen hk
  have hF' : Fr (hideAll s.heap (sub.map (·.1))) s.heap.objs.size h₁ (fun y => binds.reverse.lookup y) := ⟨hns, fun b o e => hk₁ b o (of_hideAll _ e), Nat.le_of_eq (hideAll_size _ _)⟩
  have hN' : News (hideAll s.heap (sub.map (·.1))) s.heap.objs.size h₁ sub := fun q hq => ⟨hk₁ _ _ (Ns q hq).1, Nat.ne_of_lt (Heap.lt_size (Ns q hq).1), hideAll_none _ (List.mem_map_of_mem hq)⟩
  have hX' : Cx K p loose mg mb bm ob (ktrTop dp un gd cn cs L a ccd cl outer) base (envX cn cs L a ccd cl :: outer) (hideAll s.heap (sub.map (·.1))) := ⟨BG, C.X.keeps st, C.T.keeps st, ⟨C.M.ns.keeps st, C.M.name, C.M.ne, st _ _ C.M.obj, C.M.cls, C.M.dict, C.M.data⟩⟩
  obtain ⟨hh, gn, d, t, os⟩ := s
  have := hb (dp + 1) (un + 3) gd hh.objs.size (envX cn cs L a ccd cl :: outer) _ base _ h₁ gn d (t + binds.length) os hX' hF' hN' (fun q hq => Heap.lt_size (Ns q hq).1) hG (by omega) (by omega)
  refine wpR_mono this (fun fl s' hl => ?_) (fun _ _ x => x.elim)
  obtain ⟨L', m', nw, F₂, N₂, hP, hG', hdr, hos⟩ := hl
  obtain ⟨h', g', d', t', os'⟩ := s'
  simp only at hdr hos F₂ N₂ hG'
  subst hdr; subst hos
  have keepL : ∀ b o, h₀.get? b = some o → h'.get? b = some o := fun b o e => F₂.keep b o (st b o e)
  have nmL : ∀ q ∈ news, q.1 ∉ sub.map (·.1) → (hideAll hh (sub.map (·.1))).get? q.1 = some q.2 := fun q hq hn => hideAll_get _ (N q hq).1 hn
  have FL : Fr h₀ L h' m := ⟨FG.ns.keeps F₂.keep, keepL, F.above⟩
  have hne : ∀ q ∈ nw, q.1 ≠ L := fun q hq e => by
    obtain ⟨oL, es, ep, hL, _⟩ := FG.ns
    have := (N₂ q hq).2.2; rw [e, hL] at this; cases this
  cases fl <;> (
    refine hret _ nw h' t' g' hP FL (fun l hl q hq => ?_) (fun q hq hn q' hq' e => ?_) hG'
    · rcases hl q hq with hq | ⟨hq, hn⟩
      · refine ⟨(N₂ q hq).1, hne q hq, ?_⟩
        cases z : h₀.get? q.1 with
        | none => rfl
        | some o => have := (N₂ q hq).2.2; rw [st _ _ z] at this; cases this
      · exact ⟨F₂.keep _ _ (nmL q hq hn), (N q hq).2⟩
    · have := (N₂ q' hq').2.2
      rw [← e, nmL q hq hn] at this; cases this)

theorem specRC_of {name qual : Str} {params : Arguments} {body : List Stmt} {scope : Scope} {dV kV doc pm cdv ct oc : Value} {an od : Option Addr} {osl : Array (Option Value)} {pos : List Value} {kw : List (Str × Value)} {binds : List (Str × Value)}
    (ho : K.lookup f = some ⟨oc, od, .func (fnX name qual params body scope [] dV kV doc pm an cdv ct), osl⟩) (hcd : codeIn K cdv qual = true)
    (hbind : ∀ s : Shared, K.In s.heap → BindsTo s (fnX name qual params body scope [] dV kV doc pm an cdv ct) ⟨pos, kw⟩ binds)
    (hkind : (binds.all fun y => scope.names.lookup y.1 == some .local || scope.names.lookup y.1 == some .cell) = true)
    (hnd : ((cellsFrom 0 scope.names []).map (·.1)).Nodup)
    (hb : ∀ (dp un : Nat) (gd : Option (List Code)) (L : Addr) (outer : List Env) (A₀ : Around) (base g h₁ : Heap) (gn : Array GenState) (d : Drawn) (tk : Nat) (os : OsState) (cells : Led),
      Cx K p loose mg mb bm ob A₀ base outer g → Fr g L h₁ (bindL (envX qual scope L f cdv (cellsFrom (L + 1) scope.names [])).kindOf binds fun _ => none) → News g L h₁ (cells ++ sub) →
      CellsAre (bindC (envX qual scope L f cdv (cellsFrom (L + 1) scope.names [])).kindOf binds fun _ => none) (cellsFrom (L + 1) scope.names []) cells → (∀ q ∈ sub, q.1 < L) → AllBare gn → dp + kd < recursionLimit + 1 → un + ku < cLine + 3 →
      wpR (model prog w) (ktrTop dp un gd qual scope L f cdv (cellsFrom (L + 1) scope.names []) outer) (execs body (envX qual scope L f cdv (cellsFrom (L + 1) scope.names []))) (fun fl s' => Ret g d os P (retOf fl) s') (fun _ _ => False) ⟨h₁, gn, d, tk, os⟩)
    (hco : scope.isCoroutine = false) (hgen : scope.isGenerator = false) (hk : scope.kind = .function) (hkd : 0 < kd) :
    SpecR prog w K p loose mg mb bm ob kd ku f pos kw sub P := by
  intro dp un gd cn cs L a ccd cl outer A₀ base h₀ m news s R C F N hcs hsub hG hd hu hret
  have Ns : News h₀ L s.heap sub := fun q hq => N q (hsub q hq)
  have X := C.X.keeps F.keep
  obtain ⟨FG, BG, st, lv⟩ := groundX (A := ktrTop dp un gd cn cs L a ccd cl outer) (env := envX cn cs L a ccd cl) (R := R) C.B F Ns rfl rfl hcs
  have hlim := C.T.nolimit.keeps F.keep
  have hX' : Cx K p loose mg mb bm ob (ktrTop dp un gd cn cs L a ccd cl outer) base (envX cn cs L a ccd cl :: outer) (hideAll s.heap (sub.map (·.1))) := ⟨BG, C.X.keeps st, C.T.keeps st, ⟨C.M.ns.keeps st, C.M.name, C.M.ne, st _ _ C.M.obj, C.M.cls, C.M.dict, C.M.data⟩⟩
  refine codeR_call_function (fd := fnX name qual params body scope [] dV kV doc pm an cdv ct) (by show dp < recursionLimit; omega) (X _ _ ho) rfl hco hgen rfl (codeRec_of X hcd) (hbind s X _ _ _ _ ?_)
  refine wpAny_newFunctionEnv_cells hk (kindsX hkind _) fun env' he s₁ x => ?_
  subst he
  refine ⟨hlim.keeps x.toInCall.keep, codeR_func ?_⟩
  obtain ⟨h₁, tk, rfl, _⟩ := x.done
  have hk₁ := x.toInCall.keep
  obtain ⟨cells, NC, Y⟩ := Cl.news (h₀ := s.heap) (Nat.le_refl _) fun n c hm => ⟨x.cell n c (lookup_of_mem_nodup (cellsFrom_names scope.names 0 (s.heap.objs.size + 1) [] [] rfl ▸ hnd) hm), x.above n c hm⟩
  have hF' : Fr (hideAll s.heap (sub.map (·.1))) s.heap.objs.size h₁ _ := ⟨x.toInCall.ns, fun b o e => hk₁ b o (of_hideAll _ e), Nat.le_of_eq (hideAll_size _ _)⟩
  have hN' : News (hideAll s.heap (sub.map (·.1))) s.heap.objs.size h₁ (cells ++ sub) := fun q hq => by
    rcases List.mem_append.mp hq with hq | hq
    · refine ⟨(NC q hq).1, (NC q hq).2.1, ?_⟩
      cases z : (hideAll s.heap (sub.map (·.1))).get? q.1 with
      | none => rfl
      | some o => have := of_hideAll _ z; rw [(NC q hq).2.2] at this; cases this
    · exact ⟨hk₁ _ _ (Ns q hq).1, Nat.ne_of_lt (Heap.lt_size (Ns q hq).1), hideAll_none _ (List.mem_map_of_mem hq)⟩
  obtain ⟨hh, gn, d, t, os⟩ := s
  have := hb (dp + 1) (un + 3) gd hh.objs.size (envX cn cs L a ccd cl :: outer) _ base _ h₁ gn d tk os cells hX' hF' hN' Y (fun q hq => Heap.lt_size (Ns q hq).1) hG (by omega) (by omega)
  refine wpR_mono this (fun fl s' hl => ?_) (fun _ _ x => x.elim)
  obtain ⟨L', m', nw, F₂, N₂, hP, hG', hdr, hos⟩ := hl
  obtain ⟨h', g', d', t', os'⟩ := s'
  simp only at hdr hos F₂ N₂ hG'
  subst hdr; subst hos
  have keepL : ∀ b o, h₀.get? b = some o → h'.get? b = some o := fun b o e => F₂.keep b o (st b o e)
  have nmL : ∀ q ∈ news, q.1 ∉ sub.map (·.1) → (hideAll hh (sub.map (·.1))).get? q.1 = some q.2 := fun q hq hn => hideAll_get _ (N q hq).1 hn
  have FL : Fr h₀ L h' m := ⟨FG.ns.keeps F₂.keep, keepL, F.above⟩
  have hne : ∀ q ∈ nw, q.1 ≠ L := fun q hq e => by
    obtain ⟨oL, es, ep, hL, _⟩ := FG.ns
    have := (N₂ q hq).2.2; rw [e, hL] at this; cases this
  cases fl <;> (
    refine hret _ nw h' t' g' hP FL (fun l hl q hq => ?_) (fun q hq hn q' hq' e => ?_) hG'
    · rcases hl q hq with hq | ⟨hq, hn⟩
      · refine ⟨(N₂ q hq).1, hne q hq, ?_⟩
        cases z : h₀.get? q.1 with
        | none => rfl
        | some o => have := (N₂ q hq).2.2; rw [st _ _ z] at this; cases this
      · exact ⟨F₂.keep _ _ (nmL q hq hn), (N q hq).2⟩
    · have := (N₂ q' hq').2.2
      rw [← e, nmL q hq hn] at this; cases this)
end
end Own
end
section
open PySem PySem.W PyProof.Rows PySem.Calls PySem.Spec
namespace Own
section
variable {M : Model} {A : Around} {E : Value → Shared → Prop} {s : Shared} {env : Env} {pos : Pos}
theorem eval_CallAttr (o : Expr) (name : Str) (apos pos : Pos) (args : List Expr) (kws : List Keyword) : eval (.Call (.Attribute o name apos) args kws pos) env = (do
    let ov ← attributeBase o name env (eval o env)
    standAt apos.atName
    methodCall o name apos pos env ov (args.length + kws.length) (backTo pos (starEach args env)) (backToKw pos (keywordEach kws env))) := rfl
theorem eval_CallName (id : Str) (p pos : Pos) (args : List Expr) (kws : List Keyword) : eval (.Call (.Name id p) args kws pos) env = (do
    callWith pos (← eval (.Name id p) env) [] (backTo pos (starEach args env)) (backToKw pos (keywordEach kws env))) := rfl
theorem methodCall_few {o : Expr} {name : Str} {apos pos : Pos} {ov : Value} {n : Nat} {args : List (Bool × Sem Value)} {kws : List (Option Str × Sem Value)} (hf : methodCallForm n args kws = true) (hp : (apos.endLine == pos.line) = true) :
    methodCall o name apos pos env ov n args kws = (do
      let (f, first) ← holding [ov] (getMethod ov name (do return (← importBound o env).getD true))
      callWith pos f first args kws) := by
  unfold methodCall calleeOf methodCallPos
  rw [hf, hp]
  rfl
theorem wpR_MethodCall {o : Expr} {name : Str} {apos pos : Pos} {args : List Expr} {Q : Value → Shared → Prop}
    (hb : attributeBase o name env (eval o env) = eval o env) (hf : methodCallForm (args.length + 0) (backTo pos (starEach args env)) [] = true) (hp : (apos.endLine == pos.line) = true)
    (h : wpAny M A (eval o env) (fun ov s₁ => wpAny M A (getMethod ov name (do return (← importBound o env).getD true)) (fun fx s₂ => wpR M A (callWith pos fx.1 fx.2 (backTo pos (starEach args env)) []) Q E s₂) E s₁) E s) :
    wpR M A (eval (.Call (.Attribute o name apos) args [] pos) env) Q E s := by
  rw [eval_CallAttr, hb]
  refine wpR_bindA (wpAny_mono h (fun ov s₁ h₁ => wpR_bindA (wpAny_standAt ?_)) fun _ _ x => x)
  show wpR _ _ (methodCall o name apos pos env ov (args.length + 0) (backTo pos (starEach args env)) []) _ _ _
  rw [methodCall_few hf hp]
  exact wpR_bindA (wpAny_holding (wpAny_mono h₁ (fun fx s₂ h₂ => h₂) fun _ _ x => x))
theorem wpR_CallName {id : Str} {p pos : Pos} {args : List Expr} {Q : Value → Shared → Prop}
    (h : wpAny M A (eval (.Name id p) env) (fun f s₁ => wpR M A (callWith pos f [] (backTo pos (starEach args env)) []) Q E s₁) E s) : wpR M A (eval (.Call (.Name id p) args [] pos) env) Q E s := by
  rw [eval_CallName]; exact wpR_bindA h
theorem wpR_spliced_cons {x : Sem Value} {rest : List (Bool × Sem Value)} {Q : List Value → Shared → Prop}
    (h : wpR M A x (fun v s₁ => wpR M A (spliced rest) (fun vs s₂ => Q (v :: vs) s₂) E s₁) E s) : wpR M A (spliced ((false, x) :: rest)) Q E s := by
  rw [spliced]
  refine wpR_bind (wpR_mono h (fun v s₁ h₁ => ?_) fun _ _ x => x)
  simp only [Bool.false_eq_true, if_false]
  exact wpR_bindA (wpAny_pure (wpR_bind (wpR_holding (wpR_mono h₁ (fun vs s₂ h₂ => wpR_pure h₂) fun _ _ x => x))))
theorem wpR_spliced_nil {Q : List Value → Shared → Prop} (h : Q [] s) : wpR M A (spliced []) Q E s := wpR_pure h
theorem wpR_evalArgs {f : Value} {x : Sem Value} {rest : List (Bool × Sem Value)} {Q : Args → Shared → Prop}
    (h : wpR M A (spliced ((false, x) :: rest)) (fun vs s' => Q ⟨vs, []⟩ s') E s) : wpR M A (evalArgs f true ((false, x) :: rest) []) Q E s := by
  unfold evalArgs
  show wpR M A (spliced ((false, x) :: rest) >>= _) Q E s
  refine wpR_bind (wpR_mono h (fun vs s' h' => ?_) fun _ _ x => x)
  refine wpR_holding ?_
  exact wpR_bindA (wpAny_pure (wpR_bindA (wpAny_pure (wpR_pure h'))))
theorem wpR_evalArgs0 {f : Value} {Q : Args → Shared → Prop} (h : Q ⟨[], []⟩ s) : wpR M A (evalArgs f true [] []) Q E s := by
  unfold evalArgs
  show wpR M A (spliced [] >>= _) Q E s
  refine wpR_bind (wpR_spliced_nil (wpR_bind (wpR_pure (wpR_holding ?_))))
  exact wpR_bindA (wpAny_pure (wpR_bindA (wpAny_pure (wpR_pure h))))
theorem wpR_callWith {P : Heap → Prop} {f : Value} {first : List Value} {args : List (Bool × Sem Value)} {Q : Value → Shared → Prop} (hplain : args.any (·.1) = false)
    (hk : ∀ h, P h → ∃ k, (k = Keeper.frame ∨ k = Keeper.machine ∨ k = Keeper.boundFrame) ∧ Looks M h (keeperOf f) k)
    (h : wpR M A (evalArgs f true args []) (fun a s₁ => P s₁.heap ∧ wpR M A (call f (first ++ a.pos) a.kw) Q E s₁) E s) : wpR M A (callWith pos f first args []) Q E s := by
  unfold callWith
  refine wpR_bind (wpR_holding (wpR_mono h (fun a s₁ h₁ => wpR_bindA (wpAny_standAt ?_)) fun _ _ x => x))
  obtain ⟨k, hk', L⟩ := hk _ h₁.1
  simp only [hplain, List.any_nil, Bool.or_false]
  refine wpR_bindA (L.here ?_)
  have tail : ∀ {t : Sem Value}, wpR M A t Q E s₁ → wpR M A (t >>= fun r => holding [r] point >>= fun _ => pure r) Q E s₁ :=
    fun ht => wpR_bind (wpR_mono ht (fun r s₂ hr => wpR_bindA (wpAny_holding (wpAny_point (wpR_pure hr)))) fun _ _ x => x)
  have marked (mk : Value) : wpR M A (callMarked mk f (first ++ a.pos) a.kw) Q E s₁ := by unfold callMarked; exact wpR_keep h₁.2
  rcases hk' with rfl | rfl | rfl <;> dsimp only <;> first | exact tail h₁.2 | (split <;> first | exact tail h₁.2 | exact tail (marked _))
theorem keeps_builtin (id : String) (h : Heap) (_ : True) : ∃ k, (k = Keeper.frame ∨ k = Keeper.machine ∨ k = Keeper.boundFrame) ∧ Looks M h (keeperOf (.builtin id)) k := ⟨.machine, .inr (.inl rfl), Looks.of_pure rfl⟩
theorem keeps_type (T : String) (h : Heap) (_ : True) : ∃ k, (k = Keeper.frame ∨ k = Keeper.machine ∨ k = Keeper.boundFrame) ∧ Looks M h (keeperOf (.type T)) k := ⟨.machine, .inr (.inl rfl), Looks.of_pure rfl⟩
end
end Own
end
section
open PySem PySem.W PyProof.Rows PySem.Calls PySem.Spec
namespace Own
section
variable {prog : Program} {w : World} {A : Around} {E : Value → Shared → Prop} {s : Shared} {c P : Addr} {mg : Str → Option Value} {bm : Addr} {ob : Obj}

/-- a generator expression in a function whose code table stands in the ledger: hit or miss -/
theorem genexp_own {env : Env} {elt iter : Expr} {x : Str} {px : Pos} {ifs : List Expr} {scope : Scope} {cl : List (Str × Addr)} {pos : Pos} {Q : Value → Shared → Prop}
    (hcode : env.code = .ref c) (hh : A.handled = none) (hco : scope.isCoroutine = false) (hclos : closureFor scope env = pure cl) (hcell : ∀ y ∈ scope.names, y.2 ≠ .cell) (h0 : scope.names.lookup (".0" : Str) = some NameKind.local)
    (hx : scope.names.lookup x = some .local) (hkind : scope.kind = .function) (hroom : A.depth < recursionLimit) (hs : ∀ x, genFold iter env x = pure x)
    (h : wpAny (model prog w) A (eval iter env) (fun xv s₁ => wpAny (model prog w) A (pyIter xv) (fun it s₂ => s₂.heap.NoLimit ∧ AllBare s₂.gens ∧
      ∃ K I fp wr n₀ Pi St₀ pz F ps, it = .ref I ∧ s₂.heap.IsCode c P ps ∧ s₂.heap.TableAt c P ps ∧ BMod s₂.heap env.globals mg bm ob ∧ K < s₂.heap.objs.size ∧
        (∀ A' : Around, A'.handled = none → Walks prog w A' I fp wr n₀ Pi St₀) ∧ St₀ 0 s₂.heap ∧ (∀ b ∈ fp, b < s₂.heap.objs.size) ∧ P ∉ fp ∧ (∀ b ∈ wr, K < b) ∧ cStatics ∉ wr ∧
        (∀ (C : Addr) (code : Value) (N : Nat) (href : Heap), s₂.heap.objs.size ≤ N → (∀ b o, b ≠ P → s₂.heap.get? b = some o → href.get? b = some o) →
          QuietGen prog w (genEnv scope cl C code builtinsNs env) x ifs elt (List.range N) wr Pi pz F href) ∧
        (∀ (a : Addr) (ps' : Array Value) (s₅ : Shared), s₅.heap.TableAt c P ps' → TriplesOk ps'.toList → (∀ b o, b ≠ P → s₂.heap.get? b = some o → s₅.heap.get? b = some o) →
          AllBare s₅.gens → s₅.drawn = s₂.drawn → s₅.os = s₂.os → s₂.heap.objs.size < a →
          Gen prog w A K a (passing pz n₀ 0).length (fun j y => ∃ i, (passing pz n₀ 0)[j]? = some i ∧ F i y) s₅ → Q (.ref a) s₅)) E s₁) E s) :
    wpAny (model prog w) A (eval (.GeneratorExp elt [⟨.Name x px, iter, ifs, 0⟩] scope pos) env) Q E s := by
  refine wpAny_GeneratorExp_walksQ hh hco hclos hcell h0 hx hkind hroom (wpAny_mono h (fun xv s₁ h₁' => wpAny_mono h₁' (fun it s₂ h₂ => ?_) fun _ _ e => e) fun _ _ e => e) hs
  obtain ⟨hlim, G₂, K, I, fp, wr, n₀, Pi, St₀, pz, F, ps, rfl, hok, htab, M, hK, W₀, hst, hfp, hPf, hwr, hcw, hq, hQ⟩ := h₂
  have hcP : cStatics ≠ P := fun e => by
    obtain ⟨_, hns, _⟩ := hlim
    obtain ⟨o, es, ep, ho, hd, _⟩ := hns
    rw [e, htab.2] at ho; cases ho; cases hd
  have key : ∀ (code : Value) (h₃ : Heap) (tk₃ : Nat) (ps' : Array Value), Heap.ExtBut P s₂.heap h₃ → s₂.heap.objs.size ≤ h₃.objs.size → h₃.TableAt c P ps' → TriplesOk ps'.toList →
      wpAny (model prog w) A (builtinsFor env.globals env.builtins) (fun bi s₄ =>
        ∃ I' fp wr n₀ P St₀ pz F, Value.ref I = .ref I' ∧ (∀ A' : Around, A'.handled = none → Walks prog w A' I' fp wr n₀ P St₀) ∧ St₀ 0 s₄.heap ∧ (∀ b ∈ fp, b < s₄.heap.objs.size) ∧ s₄.heap.NoLimit ∧ cStatics ∉ wr ∧
          (∀ href : Heap, (∀ b o, s₄.heap.get? b = some o → href.get? b = some o) →
            QuietGen prog w (genEnv scope cl s₄.heap.objs.size code bi env) x ifs elt (List.range s₄.heap.objs.size) wr P pz F href) ∧
          (∀ a h₅ tk gs, gs.bare = true → s₄.heap.objs.size < a → h₅.objs.size = a + 1 → (∀ b o, s₄.heap.get? b = some o → h₅.get? b = some o) →
            WalksS prog w A.in4 a (a :: s₄.heap.objs.size :: List.range s₄.heap.objs.size) (s₄.heap.objs.size :: wr) (GenOnlyQ s₄.gens.size) (passing pz n₀ 0).length
              (fun j y => ∃ i, (passing pz n₀ 0)[j]? = some i ∧ F i y) (GenAt prog w A.in4 a s₄.gens.size s₄.heap.objs.size (List.range s₄.heap.objs.size) wr pz n₀ F) →
            GenAt prog w A.in4 a s₄.gens.size s₄.heap.objs.size (List.range s₄.heap.objs.size) wr pz n₀ F 0 { s₄ with gens := s₄.gens.push gs, toks := tk, heap := h₅ } →
            Q (.ref a) { s₄ with gens := s₄.gens.push gs, toks := tk, heap := h₅ })) E { s₂ with heap := h₃, toks := tk₃ } := by
    intro code h₃ tk₃ ps' hx₃ hsz htab₃ htr
    have M₃ : BMod h₃ env.globals mg bm ob := M.extBut htab hx₃
    have hl₃ : h₃.NoLimit := hlim.extBut hx₃ hcP
    refine wpAny_builtinsFor M₃.ns M₃.name M₃.ne M₃.obj M₃.cls M₃.dict M₃.data ?_
    refine ⟨I, fp, wr, n₀, Pi, St₀, pz, F, rfl, W₀, (W₀ A hh).frame _ _ _ hst (fun b hb o e => hx₃ b o (fun e' => hPf (e' ▸ hb)) e), (fun b hb => Nat.lt_of_lt_of_le (hfp b hb) hsz), hl₃, hcw,
      (fun href hhref => hq _ code _ href hsz fun b o hb e => hhref b o (hx₃ b o hb e)), fun a h₅ tk gs hgb hag hsz₅ hk₅ W hat => ?_⟩
    refine hQ a ps' _ ⟨let ⟨⟨oc, vc, hoc, r⟩, _⟩ := htab₃; ⟨oc, vc, hk₅ _ _ hoc, r⟩, hk₅ _ _ htab₃.2⟩ htr (fun b o hb e => hk₅ b o (hx₃ b o hb e)) (G₂.push hgb) rfl rfl (Nat.lt_of_le_of_lt hsz hag) ⟨_, _, _, _, W, hat, (fun i s' st => st.1.typeIs), List.mem_cons_self, ?_, ?_⟩
    · intro b hb
      show b < h₅.objs.size
      rw [hsz₅]
      rcases List.mem_cons.mp hb with rfl | hb
      · exact Nat.lt_succ_self _
      · rcases List.mem_cons.mp hb with rfl | hb
        · exact Nat.lt_succ_of_lt hag
        · exact Nat.lt_succ_of_lt (Nat.lt_trans (List.mem_range.mp hb) hag)
    · intro b hb
      rcases List.mem_cons.mp hb with rfl | hb
      · exact Nat.lt_of_lt_of_le hK hsz
      · exact hwr b hb
  refine ⟨hlim, ?_⟩
  cases hnf : codeAmong pos ps.toList with
  | none =>
    refine wpAny_genexprCodeX hcode hok htab hnf fun c' h₃ tk₃ hx₃ hge hlt hcode₃ _ htab₃ _ => ?_
    have htr : TriplesOk (ps ++ #[rawInt pos.line, rawInt pos.col, Value.ref c']).toList := by
      obtain ⟨_, _, _, _, _, _, _, _, _, op, _, _, _, _, _, _, _, hop, hpd, htr, _⟩ := hcode₃
      exact htr
    exact key _ h₃ tk₃ _ hx₃ (Nat.le_trans hge (Nat.le_of_lt hlt)) htab₃ htr
  | some cv =>
    refine wpAny_genexprCode_hit hcode hok hnf ?_
    have htr : TriplesOk ps.toList := by
      obtain ⟨_, _, _, _, _, _, _, _, _, op, _, _, _, _, _, _, _, hop, hpd, htr, _⟩ := hok
      exact htr
    exact key _ s₂.heap s₂.toks ps (fun b o _ e => e) (Nat.le_refl _) htab htr

theorem Gen.in1 {A : Around} {K a : Addr} {n : Nat} {F : Nat → Value → Prop} {s : Shared} (X : Gen prog w A K a n F s) :
    ∃ fp wr g St, WalksS prog w A.in1 a fp wr (GenOnlyQ g) n F St ∧ St 0 s ∧ (∀ i s', St i s' → s'.TypeIs (.ref a) "generator") ∧ a ∈ fp ∧ (∀ b ∈ fp, b < s.heap.objs.size) ∧ ∀ b ∈ wr, K < b :=
  let ⟨fp, wr, g, St, W, r⟩ := X
  ⟨fp, wr, g, St, W.of_in1.of_in1.of_in1, r⟩
end
end Own
namespace Own
theorem elt_shiftbit {prog : Program} {w : World} {A' : Around} {E' : Value → Shared → Prop} {s₂ : Shared} {cenv : Env} {m₂ : Str → Option Value} {v i : Int} {tv ti : Tok} {c : Addr} {o : Obj} {p1 p2 p3 p4 p5 : Pos} {k : Nat} {Q : Value → Shared → Prop}
    (hk : cenv.scope.kind = .function) (hv : cenv.kindOf "val" = some .free) (hc : cenv.cells.lookup ("val" : Str) = some c) (ho : s₂.heap.get? c = some o) (hd : o.data = .cell (some (.int v tv)))
    (hi : cenv.kindOf "i" = some .local) (hn : s₂.heap.Ns cenv.locals m₂) (hm : m₂ "i" = some (.int i ti)) (h0 : 0 ≤ i)
    (h : ∀ t tk, Q (.int (v / 2 ^ i.toNat % 2) t) { s₂ with toks := tk }) :
    wpAny (model prog w) A' (eval (.BinOp (.BinOp (.Name "val" p1) .RShift (.Name "i" p2) p3) .BitAnd (.Constant (.int 1) k p4) p5) cenv) Q E' s₂ := by
  refine wpAny_BinOp (wpAny_BinOp (wpAny_Name (wpAny_loadName_free hk hv hc ⟨o, ho, hd⟩ (wpAny_Name (wpAny_loadName_local hk hi hn hm (rshift_int h0 (wpAny_Constant_int (and_int ?_))))))))
  have e : Builtin.bitAnd (v.fdiv (2 ^ i.toNat)) 1 = v / 2 ^ i.toNat % 2 := by
    rw [bitAnd_m1, Int.fdiv_eq_ediv_of_nonneg _ (Int.le_of_lt (Int.pow_pos (by decide)))]
  rw [e]
  exact h _ _
end Own
namespace Own
theorem fr_but {g h h' : Heap} {L : Addr} {m : Str → Option Value} {ex : List Addr} (F : Fr g L h m) (hk : ∀ b o, b ∉ ex → h.get? b = some o → h'.get? b = some o) (hex : ∀ b ∈ ex, g.get? b = none ∧ b ≠ L) : Fr g L h' m :=
  ⟨F.ns.at' fun o e => hk L o (fun q => (hex L q).2 rfl) e, fun b o e => hk b o (fun q => by rw [(hex b q).1] at e; cases e) (F.keep b o e), F.above⟩
theorem beyond_none {g : Heap} {L b : Addr} (ha : g.objs.size ≤ L) (hb : L < b) : g.get? b = none := by
  cases z : g.get? b with
  | none => rfl
  | some o => exact absurd (Nat.lt_of_le_of_lt ha hb) (Nat.lt_asymm (Heap.lt_size z))
theorem passing_all (n : Nat) : passing (fun _ => true) n 0 = List.range n := by simp [passing]
end Own

namespace Own
theorem keep_fr {g h h' : Heap} {L : Addr} {m : Str → Option Value} (F : Fr g L h m) (k : ∀ b o, h.get? b = some o → h'.get? b = some o) : Fr g L h' m := F.keeps k
/-- everything kept, one object more at the old end -/
theorem news_fresh {g h h' : Heap} {L : Addr} {m : Str → Option Value} {news : Led} {o : Obj} (F : Fr g L h m) (N : News g L h news) (k : ∀ b o, h.get? b = some o → h'.get? b = some o) (e : h'.get? h.objs.size = some o) :
    News g L h' ((h.objs.size, o) :: news) := fun q hq => by
  have hL : L < h.objs.size := by obtain ⟨o, es, ep, ho, _⟩ := F.ns; exact Heap.lt_size ho
  rcases List.mem_cons.mp hq with rfl | hq
  · exact ⟨e, Nat.ne_of_gt hL, beyond_none F.above hL⟩
  · exact ⟨k _ _ (N q hq).1, (N q hq).2⟩
theorem news_keep {g h h' : Heap} {L : Addr} {news : Led} (N : News g L h news) (k : ∀ b o, h.get? b = some o → h'.get? b = some o) : News g L h' news := fun q hq => ⟨k _ _ (N q hq).1, (N q hq).2⟩
theorem news_sub {g h : Heap} {L : Addr} {news news' : Led} (N : News g L h news) (k : ∀ q ∈ news', q ∈ news) : News g L h news' := fun q hq => N q (k q hq)
end Own

namespace Own
theorem news_ne {g h : Heap} {L a b : Addr} {o o' : Obj} {news : Led} (N : News g L h news) (h1 : (a, o) ∈ news) (h2 : (b, o') ∈ news) (hne : o.cls ≠ o'.cls) : @Ne Nat a b := fun e => by
  have e1 := (N _ h1).1
  have e2 := (N _ h2).1
  rw [show ((a, o) : Addr × Obj).1 = b from e, e2] at e1
  exact hne (congrArg (·.cls) (Option.some.inj e1)).symm
theorem ref_ne_type {a : Addr} {T : String} : (Value.ref a) ≠ .type T := by intro h; cases h
end Own

namespace Own
theorem news_upd {g h h' : Heap} {L D : Addr} {o o' : Obj} {news news' : Led} (N : News g L h news) (U : Upd D o o' news news') (hs : Heap.SameBut D h h') (ho : h'.get? D = some o') : News g L h' news' := by
  obtain ⟨pre, post, rfl, rfl, a, b⟩ := U.split
  exact news_set N a b hs ho
end Own
namespace Own
theorem news_pick {g h : Heap} {L : Addr} {nw news : Led} {q : Addr × Obj} (N : News g L h (nw ++ news)) (hq : q ∈ nw) : News g L h (q :: news) := fun r hr => by
  rcases List.mem_cons.mp hr with rfl | hr
  · exact N _ (List.mem_append_left _ hq)
  · exact N _ (List.mem_append_right _ hr)
end Own
end
section
open PySem PySem.W PyProof.Rows PySem.Calls PySem.Spec
namespace Own
section
variable {prog : Program} {w : World} {A : Around} {E : Value → Shared → Prop} {s : Shared} {K : Frag} {h₀ : Heap} {L x C : Addr} {m : Str → Option Value} {ox : Obj} {od : Option Obj}

theorem check_sub {id owner n : String} {rest : List Value} {kw : List (Str × Value)} {Q : Unit → Shared → Prop} (X : K.In s.heap) (I : InstAt s.heap x ox C od)
    (hsplit : splitId id = some (owner, n)) (hkind : (Manifest.find? owner).bind (·.attrs.lookup n) = some .slot ∨ (Manifest.find? owner).bind (·.attrs.lookup n) = some .method)
    (hsub : subIn K (.ref C) (.type owner) = some true) (ha : argsOk id ⟨.ref x :: rest, kw⟩) (hQ : Q () s) : wpAny (model prog w) A (checkBuiltinCall id ⟨.ref x :: rest, kw⟩) Q E s := by
  have hk : builtinKind id = (Manifest.find? owner).bind (·.attrs.lookup n) := by simp only [builtinKind, hsplit]
  rcases hkind with h | h <;>
  · simp only [checkBuiltinCall, hk, h, hsplit]
    refine wpAny_bind (wpAny_bind (I.type.here ((looks_subIn X hsub).here ?_)))
    simp only [Bool.not_true, Bool.false_eq_true, if_false]
    cases hsig : Manifest.signature? id with
    | none => exact wpAny_pure hQ
    | some sig =>
      simp only [argsOk, hsig] at ha
      have h2 : Bind.checkArgs id sig ⟨.ref x :: rest, kw⟩ = pure () := ha
      show wpAny _ A (Bind.checkArgs id sig ⟨.ref x :: rest, kw⟩) Q E s
      rw [h2]; exact wpAny_pure hQ

theorem call_sub {id owner n : String} {b : Builtin} {rest : List Value} {Q : Value → Shared → Prop} (X : K.In s.heap) (I : InstAt s.heap x ox C od)
    (hp : plainId id = true) (hsplit : splitId id = some (owner, n)) (hkind : (Manifest.find? owner).bind (·.attrs.lookup n) = some .slot ∨ (Manifest.find? owner).bind (·.attrs.lookup n) = some .method)
    (hsub : subIn K (.ref C) (.type owner) = some true) (hb : entryFor table id = some b) (ha : argsOk id ⟨.ref x :: rest, []⟩)
    (hc : wpAny (model prog w) A.in1 (b ⟨.ref x :: rest, []⟩) (fun fin s' => ∃ v, fin = .done (.ret v) ∧ Q v s') E s) :
    wpAny (model prog w) A (call (.builtin id) (.ref x :: rest)) Q E s := by
  refine wpAny_call (codeAny_call_builtin hp hb (check_sub X I hsplit hkind hsub ha (wpAny_mono hc (fun fin s' h' => ?_) fun _ _ h' => h')))
  obtain ⟨v, rfl, hv⟩ := h'; exact hv

theorem getItem_tupsub {items : Array Value} {n : Nat} {k : Int} {u : Tok} {v : Value} {Q : Value → Shared → Prop} (X : K.In s.heap) (I : InstAt s.heap x ox C od)
    (hs : findIn K (.ref C) "__getitem__" = some (some (.builtin "tuple.__getitem__"))) (hsub : subIn K (.ref C) (.type "tuple") = some true)
    (hno : noSeq K C = true)
    (hd : ox.data = .seq items n) (h0 : 0 ≤ k) (hk : k < 2 ^ 63) (hv : items[k.toNat]? = some v) (h : Q v s) : wpAny (model prog w) A (getItem (.ref x) (.int k u)) Q E s := by
  have hlt : k.toNat < items.size := (Array.getElem?_eq_some_iff.mp hv).1
  have hj : seqIndex? k items.size = some k.toNat := by
    unfold seqIndex?
    have : ¬ k < 0 := by omega
    simp [this]
    omega
  unfold getItem
  try with_reducible refine wpAny_holding ?_
  have key : wpAny (model prog w) A (sequenceKey (.ref x) (.int k u) "__getitem__") (fun r s' => r = .int k u ∧ s = s') E s := by
    unfold sequenceKey
    refine wpAny_bind (I.type.here ?_)
    dsimp only
    refine wpAny_bind ((anyM_none X hno).here ?_)
    exact wpAny_pure ⟨rfl, rfl⟩
  refine wpAny_bind (wpAny_mono key (fun r s' hr => ?_) fun _ _ e => e)
  obtain ⟨rfl, rfl⟩ := hr
  refine wpAny_bind (m := callSpecial? _ _ _) ?_
  unfold callSpecial?
  refine wpAny_bind (wpAny_bind (I.type.here ((looks_findIn X hs).here ?_)))
  dsimp only
  refine wpAny_holding ?_
  rw [slot_tuple_getitem.bind]
  refine wpAny_bind (wpAny_pure ?_)
  dsimp only
  refine wpAny_bind (wpAny_mono (call_sub (Q := fun r s' => r = v ∧ s = s') X I slot_tuple_getitem.plain (owner := "tuple") (n := "__getitem__") (by decide +kernel) (by first | exact .inl (by decide +kernel) | exact .inr (by decide +kernel)) hsub entry_tuple_getitem (args_tuple_getitem _ _) ?_) (fun r s' hr => ?_) fun _ _ e => e)
  · show wpAny _ _ (Builtin.Tuple.tupleItemsOf (.ref x) >>= _) _ _ s
    refine wpAny_bind ?_
    unfold Builtin.Tuple.tupleItemsOf
    refine wpAny_bind (wpAny_seqItems I.at_ hd (wpAny_pure ?_))
    refine wpAny_bind (wpAny_typeOf (T := "int") (v := .int k u) (by first | exact typeIs_int _ k u | rfl) ?_)
    rw [if_neg (by decide)]
    refine wpAny_bind (wpAny_specialOf (T := "int") (v := .int k u) (by first | exact typeIs_int _ k u | rfl) int_index ?_)
    rw [if_neg (by simp)]
    refine wpAny_bind (wpAny_of_eq (a := k) rfl ?_)
    rw [if_neg (by simp only [Bool.or_eq_true, decide_eq_true_eq]; omega)]
    simp only [hj, Option.bind_some, hv]
    exact wpAny_pure ⟨_, rfl, rfl, rfl⟩
  · obtain ⟨rfl, rfl⟩ := hr
    first | exact wpAny_pure h | exact wpAny_pure (wpAny_pure h) | exact wpAny_pure (wpAny_bind (wpAny_pure h)) | exact wpAny_bind (wpAny_pure (wpAny_pure h)) | exact wpAny_pure (wpAny_pure h) | trace_state

theorem subTup_K {value slice : Expr} {vs : List Value} {n : Nat} {k : Int} {u : Tok} {v : Value} {Q : Value → Shared → Prop} (F : Fr h₀ L s.heap m) (X₀ : K.In h₀) (I : InstAt s.heap x ox C od)
    (hs : findIn K (.ref C) "__getitem__" = some (some (.builtin "tuple.__getitem__"))) (hsub : subIn K (.ref C) (.type "tuple") = some true)
    (hno : noSeq K C = true)
    (hd : ox.data = .seq vs.toArray n) (h0 : 0 ≤ k) (hk : k < 2 ^ 63) (hv : vs[k.toNat]? = some v) (h : Q v s)
    (hsl : subscripted slice false (.ref x) (.int k u) = operate [.ref x, .int k u] (getItem (.ref x) (.int k u)) := by with_unfolding_all rfl) :
    wpAny (model prog w) A (subscriptTail value slice (.ref x) (.int k u)) Q E s := by
  have X := X₀.keeps F.keep
  unfold subscriptTail
  refine wpAny_bind ?_
  rw [getitemInPython_of_ne (by simp)]
  refine wpAny_bind (wpAny_bind (I.type.here ((looks_findIn X hs).here ?_)))
  have fin : wpAny (model prog w) A (subscripted slice false (.ref x) (.int k u)) (fun r s₃ => wpAny (model prog w) A (letTemporaryGo value (.ref x) r >>= fun _ => pure r) Q E s₃) E s := by
    rw [hsl]
    exact wpAny_operating (getItem_tupsub X I hs hsub hno hd h0 hk (by simpa using hv) (wpAny_bind (wpAny_letTemporaryGo (wpAny_pure h))))
  first
    | exact wpAny_pure (wpAny_bind fin)
    | exact wpAny_bind (wpAny_pure (wpAny_bind fin))
    | exact wpAny_bind fin
theorem inst_seg {h : Heap} {dx : Addr} {news : List (Addr × Obj)} {vs : Array Value} {n : Nat} {o : Obj} {sl : Array (Option Value)} (N : News h₀ L h news) (h1 : (x, (⟨.ref C, some dx, .seq vs n, sl⟩ : Obj)) ∈ news) (h2 : (dx, o) ∈ news) :
    InstAt h x ⟨.ref C, some dx, .seq vs n, sl⟩ C (some o) := ⟨(N _ h1).1, rfl, rfl, (N _ h2).1⟩
end
end Own
end
section
open PySem PySem.W PyProof.Rows PySem.Calls PySem.Spec
namespace Own.FX
theorem slot_tuple_ga : Slot "tuple" "__getattribute__" "tuple.__getattribute__" :=
  .of (owner := "tuple") (n := "__getattribute__") (by rw [typeLookup_type, builtinLookup_eq_fast]; kernel_rfl) (by decide +kernel) (by decide +kernel) (by decide +kernel)
    (by first | exact .inl (by decide +kernel) | exact .inr (by decide +kernel)) (by rw [isSubtype_type]; kernel_rfl)
theorem entry_tuple_ga : entryFor table "tuple.__getattribute__" = some Builtin.«object.__getattribute__» := entryFor_alias (id' := "object.__getattribute__") (by rw [fastTable_eq_tree]; kernel_rfl) (by decide +kernel) (by decide +kernel) (by rw [fastTable_eq_tree]; kernel_rfl)
theorem args_tuple_ga (a b : Value) : argsOk "tuple.__getattribute__" ⟨[a, b], []⟩ := by unfold argsOk; kernel_rfl
end Own.FX
namespace Own
section
variable {prog : Program} {w : World} {A : Around} {E : Value → Shared → Prop} {s : Shared} {K : Frag} {h₀ : Heap} {L x C : Addr} {m : Str → Option Value} {ox : Obj} {od : Option Obj} {R : Result → Shared → Prop}

/-- the call of an instance whose class has `__call__` -/
theorem codeAny_call_inst {a Ca f : Addr} {oa : Obj} {oda : Option Obj} {args : Args} (X : K.In s.heap) (I : InstAt s.heap a oa Ca oda) (hpl : oa.data = .plain)
    (hs : findIn K (.ref Ca) "__call__" = some (some (.ref f))) (hf : isFn K (.ref f) = true) (hfn : fnIn K f = true)
    (h : codeAny (model prog w) A (.call (.ref f) ⟨.ref a :: args.pos, args.kw⟩) R s) : codeAny (model prog w) A (.call (.ref a) args) R s := by
  unfold fnIn at hfn
  split at hfn
  · rename_i e
    refine codeAny_of_tree ?_
    show wpAny _ A.in1 (callAny (.ref a) args) _ _ s
    simp only [callAny]
    refine wpAny_bind (wpAny_load I.at_ ?_)
    rw [hpl]
    dsimp only
    unfold callAny.viaDunder
    refine wpAny_bind (wpAny_bind (I.type.here ((looks_findIn X hs).here ?_)))
    dsimp only
    refine wpAny_bind ((bind_fn X _ (beq_iff_eq.mp hf)).here ?_)
    dsimp only
    unfold callAny.plainCallee
    dsimp only
    refine wpAny_bind (wpAny_bind (wpAny_load (X _ _ e) (wpAny_pure ?_)))
    exact wpAny_pure ⟨rfl, h⟩
  · cases hfn

theorem get_bindT {expr : Bool} {name : Str} {Q : Value → Shared → Prop} {g a : Value} (X : K.In s.heap) (I : InstAt s.heap x ox C od) (hga : findIn K (.ref C) "__getattribute__" = some (some (.builtin "tuple.__getattribute__")))
    (hsub : subIn K (.ref C) (.type "tuple") = some true)
    (hf : findObj K C od name = some (.bind g a)) (hk : findIn K (.ref C) "__getattr__" = some none)
    (h : wpAny (model prog w) A.in1 (call g [a, .ref x, .ref C]) (fun v s' => wpAny (model prog w) A (handedOut v) Q E s') (fun _ _ => False) { s with toks := s.toks + 1 }) :
    wpAny (model prog w) A (getAttr (.ref x) name expr) Q E s := by
  obtain ⟨hh, gn, d, t, os⟩ := s
  have L0 := I.type (M := model prog w)
  have L1 := looks_findIn (M := model prog w) X hga
  have L2 := looks_findIn (M := model prog w) X hk
  unfold getAttr getAttrBy
  refine wpAny_bind (wpAny_mkText (wpAny_holding (wpAny_bind (L0.at (wpAny_bind (L1.at ?_))))))
  dsimp only
  show wpAny _ _ (getAttrByItsOwn _ _ _ _ _ _) _ _ _
  unfold getAttrByItsOwn
  refine wpAny_bind (show wpAny _ _ (typeLookup _ _) _ _ _ from L2.at ?_)
  refine wpAny_bind (wpAny_attempt (wpAny_holding ?_))
  show wpAny _ _ (if (expr && onTheHeap (Value.builtin "tuple.__getattribute__")) = true then _ else _) _ _ _
  rw [if_neg (by cases expr <;> simp [onTheHeap])]
  unfold boundAndCalled
  rw [FX.slot_tuple_ga.bind]
  refine wpAny_bind (wpAny_pure ?_)
  dsimp only
  have L3 := looks_find (M := model prog w) X I hf
  have ha := FX.args_tuple_ga (.ref x) (.str name t)
  show wpAny _ _ (call (.builtin "tuple.__getattribute__") (.ref x :: [.str name t])) _ _ _
  refine call_sub (s := ⟨hh, gn, d, t + 1, os⟩) (rest := [.str name t]) X I FX.slot_tuple_ga.plain (owner := "tuple") (n := "__getattribute__") (by decide +kernel) (by first | exact .inl (by decide +kernel) | exact .inr (by decide +kernel)) hsub FX.entry_tuple_ga ha ?_
  unfold Builtin.«object.__getattribute__»
  refine wpAny_bind (wpAny_pure ?_)
  dsimp only
  refine wpAny_bind (wpAny_pure (wpAny_bind (L0.at (wpAny_bind (L3.at ?_)))))
  dsimp only
  show wpAny _ _ (holding [a] (call g [a, .ref x, .ref C]) >>= ret) _ _ _
  exact wpAny_bind (wpAny_holding (wpAny_mono h (fun v s' z => wpAny_pure ⟨v, rfl, z⟩) fun _ _ z => z.elim))
theorem get_propC {expr : Bool} {name : Str} {Q : Value → Shared → Prop} {p fget : Addr} {rest : List Value} {od : Obj} (X : K.In s.heap) (I : InstAt s.heap x ox C (some od)) (hga : findIn K (.ref C) "__getattribute__" = some (some (.builtin "tuple.__getattribute__"))) (hsub : subIn K (.ref C) (.type "tuple") = some true) (hk : findIn K (.ref C) "__getattr__" = some none) (hh : isClsIn K C = true)
    (ha : findIn K (.ref C) name = some (some (.ref p))) (hn : specialIn K (.ref p) "__get__" = some (some (.builtin "property.__get__"))) (ht : takesIn K (.ref p) = some true) (hp : recIn K p "property" = some (.ref fget :: rest))
    (h : codeAny (model prog w) A.in1 (.call (.ref fget) ⟨[.ref x], []⟩) (fun r s' => match r with | .ok (.ret v) => wpAny (model prog w) A (handedOut v) Q E s' | .ok _ => False | .error _ => False) { s with toks := s.toks + 1 }) :
    wpAny (model prog w) A (getAttr (.ref x) name expr) Q E s :=
  get_bindT X I hga hsub (findObj_data hh ha hn ht) hk (wpAny_call (prop_get (s := { s with toks := s.toks + 1 }) X hp h))

theorem news_back {g h h' : Heap} {L : Addr} {news sub nw : Led} (N : News g L h news) (hsub : ∀ q ∈ sub, q ∈ news) (hnw : nw = sub)
    (hl : ∀ l : Led, (∀ q ∈ l, q ∈ nw ∨ (q ∈ news ∧ q.1 ∉ sub.map (·.1))) → News g L h' l) : News g L h' news := by
  subst hnw
  refine hl news fun q hq => ?_
  by_cases hm : q.1 ∈ nw.map (·.1)
  · obtain ⟨q', hq', e⟩ := List.mem_map.mp hm
    have h1 := (N q hq).1
    have h2 := (N q' (hsub q' hq')).1
    rw [e, h1] at h2
    have e2 : q' = q := Prod.ext e (Option.some.inj h2).symm
    exact .inl (e2 ▸ hq')
  · exact .inr ⟨hq, hm⟩

theorem getAttr_prop {p : Program} {loose : List Str} {mg mb : Str → Option Value} {bm : Addr} {ob : Obj} {name : Str} {pa fget fcall Cg : Addr} {oa : Obj} {oda : Option Obj} {rest : List Value} {od : Obj} {kd ku : Nat} {sub news : Led} {v : Value} {Q : Value → Shared → Prop} {expr : Bool}
    {dp un : Nat} {gd : Option (List Code)} {cn : Str} {cs : Scope} {a : Addr} {ccd : Value} {cl : List (Str × Addr)} {outer : List Env} {A₀ : Around} {base : Heap}
    (spec : Spec prog w K p loose mg mb bm ob kd ku fcall [.ref fget, .ref x] [] sub (fun r nw => r = v ∧ nw = sub))
    (Cx' : Cx K p loose mg mb bm ob A₀ base outer h₀) (F : Fr h₀ L s.heap m) (N : News h₀ L s.heap news) (hsub : ∀ q ∈ sub, q ∈ news)
    (I : InstAt s.heap x ox C (some od)) (hga : findIn K (.ref C) "__getattribute__" = some (some (.builtin "tuple.__getattribute__"))) (hst : subIn K (.ref C) (.type "tuple") = some true) (hk : findIn K (.ref C) "__getattr__" = some none) (hh : isClsIn K C = true)
    (ha : findIn K (.ref C) name = some (some (.ref pa))) (hn : specialIn K (.ref pa) "__get__" = some (some (.builtin "property.__get__"))) (ht : takesIn K (.ref pa) = some true) (hp : recIn K pa "property" = some (.ref fget :: rest))
    (Ig : ∀ h, K.In h → InstAt h fget oa Cg oda) (hpl : oa.data = .plain) (hs : findIn K (.ref Cg) "__call__" = some (some (.ref fcall))) (hf : isFn K (.ref fcall) = true) (hfn : fnIn K fcall = true)
    (hG : AllBare s.gens) (hd : dp + kd < recursionLimit) (hu : un + ku + 1 < cLine) (hcs : cs.kind = .function) (hv : handedIn v = true)
    (h : ∀ h' tk' g', Fr h₀ L h' m → News h₀ L h' news → AllBare g' → Q v ⟨h', g', s.drawn, tk', s.os⟩) :
    wpAny (model prog w) (ktrTop dp un gd cn cs L a ccd cl outer) (getAttr (.ref x) name expr) Q E s := by
  have X := Cx'.X.keeps F.keep
  refine get_propC X I hga hst hk hh ha hn ht hp ?_
  refine codeAny_call_inst (s := { s with toks := s.toks + 1 }) X (Ig _ X) hpl hs hf hfn ?_
  refine spec dp (un + 1) gd cn cs L a ccd cl outer A₀ base h₀ m news { s with toks := s.toks + 1 } _ Cx' F N hcs hsub hG hd (by omega) fun r nw h' tk' g' hP F' hN hap hG' => ?_
  obtain ⟨rfl, hnw⟩ := hP
  exact handed_on hv (h h' tk' g' F' (news_back N hsub hnw hN) hG')
end
end Own
end
section
open PySem PySem.W PyProof.Rows PySem.Calls PySem.Spec Builtin Builtin.ObjectAttr Builtin.Getset_descriptor
namespace Own
structure TupCls (K : Frag) (C : Addr) : Prop where
  obj : ∃ oc od cd sl, K.lookup C = some ⟨oc, od, .cls cd, sl⟩ ∧ cd.hasDel = false ∧ cd.bases = [.type "tuple"] ∧ cd.mro = [.ref C, .type "tuple", .type "object"] ∧ (sl.toList[4]?).join = some .none
  call : specialIn K (.ref C) "__call__" = some (some (.builtin "type.__call__"))
  typ : instIn K (.ref C) (.type "type") = some true
  init : findIn K (.ref C) "__init__" = some (some (.builtin "object.__init__"))

section
variable {M : Model} {K : Frag} {C : Addr} {h : Heap}
theorem looks_mro (X : K.In h) (T : TupCls K C) : Looks M h (mroOf (.ref C)) [.ref C, .type "tuple", .type "object"] := by
  obtain ⟨oc, od, cd, sl, ho, hdel, hb, hm, h4⟩ := T.obj
  have hc : clsIn K C = some cd := by unfold clsIn; rw [ho]
  exact hm ▸ (looks_clsIn X hc).andThen .now
theorem looks_made (X : K.In h) (T : TupCls K C) : Looks M h (Bind.madeBy (.ref C)) none := by
  have hm := looks_mro (M := M) X T
  obtain ⟨oc, od, cd, sl, ho, hdel, hb, _, h4⟩ := T.obj
  intro A Q E s k q
  unfold Bind.madeBy
  refine wpAny_bind (hm A _ E s k ?_)
  rw [List.forIn_cons]
  refine wpAny_bind (wpAny_bind (wpAny_bind (wpAny_bind (wpAny_loadPart (k _ _ (X _ _ ho)) (wpAny_pure ?_)))))
  dsimp only
  rw [← Array.getElem?_toList, h4]
  exact wpAny_pure (wpAny_pure (wpAny_pure q))
theorem looks_best (h : Heap) : Looks M h (Slots.bestBase [.type "tuple"]) (.type "tuple") := Looks.of_pure (by kernel_rfl)
theorem looks_static (X : K.In h) (T : TupCls K C) : Looks M h (Bind.staticBase (.ref C)) (.type "tuple") := by
  have hm := looks_mro (M := M) X T
  have hmade := looks_made (M := M) X T
  have hb' := looks_best (M := M) h
  obtain ⟨oc, od, cd, sl, ho, hdel, hb, _, h4⟩ := T.obj
  have hc : Looks M h (classData C) cd := looks_clsIn X (by unfold clsIn; rw [ho])
  intro A Q E s k q
  unfold Bind.staticBase
  refine wpAny_bind (hm A _ E s k ?_)
  rw [List.forIn_cons]
  refine wpAny_bind ?_
  dsimp only
  refine wpAny_bind (wpAny_bind (hmade A _ E s k ?_))
  simp only [Option.isSome_none, Bool.false_eq_true, if_false]
  refine wpAny_bind (hc A _ E s k ?_)
  rw [hb]
  refine wpAny_bind (hb' A _ E s k (wpAny_pure ?_))
  dsimp only
  rw [List.forIn_cons]
  refine wpAny_bind (wpAny_bind ?_)
  dsimp only
  first | refine wpAny_bind (wpAny_of_eq F.called_tuple.made ?_) | refine wpAny_of_eq F.called_tuple.made ?_ | refine wpAny_bind (wpAny_bind (wpAny_of_eq F.called_tuple.made ?_))
  simp only [Option.isSome_some, if_true]
  exact wpAny_pure (wpAny_pure (wpAny_pure q))

theorem TupCls.sub (T : TupCls K C) : subIn K (.ref C) (.type "tuple") = some true := by
  obtain ⟨oc, od, cd, sl, ho, _, _, hm, _⟩ := T.obj
  show mroIn K C _ = _
  unfold mroIn clsIn
  rw [ho]
  simp only [Option.bind_some, hm]
  first | (simp; done) | (simp; decide)
theorem TupCls.me (T : TupCls K C) : subIn K (.ref C) (.ref C) = some true := by
  obtain ⟨oc, od, cd, sl, ho, _, _, hm, _⟩ := T.obj
  show mroIn K C _ = _
  unfold mroIn clsIn
  rw [ho]
  simp only [Option.bind_some, hm]
  simp
theorem TupCls.top (T : TupCls K C) : subIn K (.ref C) (.type "object") = some true := by
  obtain ⟨oc, od, cd, sl, ho, _, _, hm, _⟩ := T.obj
  show mroIn K C _ = _
  unfold mroIn clsIn
  rw [ho]
  simp only [Option.bind_some, hm]
  first | (simp; done) | (simp; decide)
end

theorem beyond_none' {g : Heap} {L b : Addr} (ha : g.objs.size ≤ L) (hb : L < b) : g.get? b = none := by
  cases z : g.get? b with
  | none => rfl
  | some o => exact absurd (Nat.lt_of_le_of_lt ha hb) (Nat.lt_asymm (Heap.lt_size z))
abbrev segAt (C dx : Addr) (items : Array Value) : Obj := { cls := .ref C, dict := some dx, data := .seq items }
section
variable {prog : Program} {w : World} {A : Around} {E : Value → Shared → Prop} {s : Shared} {K : Frag} {C t : Addr}
theorem looks_here_tuple (h : Heap) : Looks (model prog w) h (Bind.madeBy (.type "tuple")) (some "tuple.__new__") := Looks.of_pure F.called_tuple.made
theorem tuple_new_sub {items : Array Value} {Q : Value → Shared → Prop} (X : K.In s.heap) (T : TupCls K C) (ht : IsTup s.heap t items) (hz : items.size ≤ sizeLine)
    (hQ : ∀ h' : Heap, (∀ b o, s.heap.get? b = some o → h'.get? b = some o) → Q (.ref (h'.objs.size + 1)) { s with heap := (h'.push emptyDict).push (segAt C h'.objs.size items) }) :
    wpAny (model prog w) A (call (.builtin "tuple.__new__") [.ref C, .ref t]) Q E s := by
  obtain ⟨hh, g, d, tk, os⟩ := s
  have htyp := looks_instIn (M := model prog w) X T.typ
  have hs := looks_subIn (M := model prog w) X T.sub
  have hst := looks_static (M := model prog w) X T
  have hmd := looks_here_tuple (prog := prog) (w := w) hh
  have hin := looks_findIn (M := model prog w) X T.init
  obtain ⟨oc, od, cd, sl, hC, hdel, hb, hm, h4⟩ := T.obj
  refine wpAny_call (codeAny_call_builtin (b := Builtin.«tuple.__new__») (by decide +kernel) F.entry_tuple_new ?_)
  have hkind : builtinKind "tuple.__new__" = some .builtinFn := by decide +kernel
  have hsplit : splitId "tuple.__new__" = some ("tuple", "__new__") := by decide +kernel
  simp only [checkBuiltinCall, hkind, hsplit]
  have hty : Looks (model prog w) hh (isType (.ref C)) true := (Looks.ld (part := some headPart) (X _ _ hC)).andThen .now
  have args : argsOk "tuple.__new__" ⟨[.ref C, .ref t], []⟩ := by unfold argsOk; kernel_rfl
  have here : Looks (model prog w) hh (Bind.madeHere "tuple.__new__" (.ref C)) () := hst.andThen (hmd.andThen (Looks.of_pure (by simp only [Option.map_some, bne_self_eq_false, Bool.false_eq_true, if_false])))
  obtain ⟨ot, hot, hoc, n, hod⟩ := ht
  have fin : ∀ h' : Heap, (∀ b o, hh.get? b = some o → h'.get? b = some o) → wpAny (model prog w) A.in1 (do
      let xs ← pure items.toList.toArray
      let dx ← alloc { cls := .type "dict", data := .dict #[] }
      let v ← newObj (.ref C) (.seq xs) (some dx)
      ret v) (fun fin s' => match fin with
      | .done (.ret v) => Q v s' | _ => False) E ⟨h', g, d, tk, os⟩ := by
    intro h' k
    refine wpAny_bind (wpAny_pure ?_)
    refine wpAny_bind (wpAny_alloc (wpAny_bind ?_))
    unfold newObj
    dsimp only
    rw [if_neg (by simp; exact hz)]
    try refine wpAny_bind (wpAny_pure ?_)
    unfold newObjAsIs classHasDel
    refine wpAny_bind (wpAny_alloc (wpAny_bind (wpAny_bind (wpAny_load (Heap.get?_push_of_some _ (Heap.get?_push_of_some _ (k _ _ (X _ _ hC)))) (wpAny_pure ?_)))))
    rw [hdel]
    refine wpAny_pure (wpAny_pure ?_)
    show Q _ _
    rw [Heap.size_push]
    have := hQ h' k
    rw [show items = items.toList.toArray from (Array.toArray_toList).symm] at this
    exact this
  repeat (first | with_reducible refine wpAny_collect_seq t (.inr rfl) hot hoc hod ?_ hz | simp only [bne_self_eq_false, Bool.false_eq_true, if_false, Bool.not_true] | lk)
  intro h' k
  refine wpAny_mono (fin h' k) (fun f s' z => ?_) fun _ _ z => z
  rcases f with (_ | _ | _ | _) | _ <;> first | exact z | exact z.elim
theorem tuple_new_K {h₀ : Heap} {L : Addr} {m : Str → Option Value} {news : Led} {od : Option Addr} {sl : Array (Option Value)} {items : Array Value} {n : Nat} {Q : Value → Shared → Prop} (F : Fr h₀ L s.heap m) (X₀ : K.In h₀) (N : News h₀ L s.heap news) (T : TupCls K C) (ht : (t, (⟨.type "tuple", od, .seq items n, sl⟩ : Obj)) ∈ news) (hz : items.size ≤ sizeLine)
    (hQ : ∀ x dx h', Fr h₀ L h' m → News h₀ L h' ((x, segAt C dx items) :: (dx, dictOf [] 0) :: news) → (∀ q ∈ news, q.1 < dx ∧ q.1 < x) → dx < x → Q (.ref x) { s with heap := h' }) :
    wpAny (model prog w) A (call (.builtin "tuple.__new__") [.ref C, .ref t]) Q E s := by
  refine tuple_new_sub (X₀.keeps F.keep) T ⟨_, (N _ ht).1, rfl, _, rfl⟩ hz fun h' k => ?_
  have F' := F.keeps k
  have N' : News h₀ L h' news := fun q hq => ⟨k _ _ (N q hq).1, (N q hq).2⟩
  have hlt : ∀ q ∈ news, q.1 < h'.objs.size := fun q hq => Heap.lt_size (N' q hq).1
  have hL : L < h'.objs.size := by obtain ⟨o, es, ep, ho, _⟩ := F'.ns; exact Heap.lt_size ho
  refine hQ _ h'.objs.size _ ((F'.push _).push _) (fun q hq => ?_) (fun q hq => ⟨hlt q hq, Nat.lt_succ_of_lt (hlt q hq)⟩) (Nat.lt_succ_self _)
  rcases List.mem_cons.mp hq with rfl | hq
  · refine ⟨?_, ?_, ?_⟩
    · show ((h'.push emptyDict).push _).get? (h'.objs.size + 1) = _
      rw [← Heap.size_push h' emptyDict]; exact Heap.get?_push_size _ rfl
    · exact Nat.ne_of_gt (Nat.lt_succ_of_lt hL)
    · exact beyond_none' F'.above (Nat.lt_succ_of_lt hL)
  · rcases List.mem_cons.mp hq with rfl | hq
    · exact ⟨Heap.get?_push_of_some _ (Heap.get?_push_size _ rfl), Nat.ne_of_gt hL, beyond_none' F'.above hL⟩
    · exact ⟨Heap.get?_push_of_some _ (Heap.get?_push_of_some _ (N' q hq).1), (N q hq).2⟩
theorem make_tupsub {fn p : Addr} {mc : Value} {rs rest : List Value} {R : Result → Shared → Prop} (X : K.In s.heap) (T : TupCls K C) (hm : typeIn K (.ref C) = some mc) (hr : readsIn K C mc = true)
    (e : findCls K (.ref C) mc "__new__" = some (.get (.builtin "staticmethod.__get__") (.ref p) .none (.ref C))) (hp : recIn K p "staticmethod" = some (.ref fn :: rs))
    (harg : ∀ x : Addr, argsOk "object.__init__" ⟨.ref x :: rest, []⟩)
    (h : codeAny (model prog w) (A.under (.builtin "type.__call__" ⟨.ref C :: rest, []⟩)) (.call (.ref fn) ⟨.ref C :: rest, []⟩) (fun r s' => match r with
      | .ok (.ret v) => ∃ x o, v = .ref x ∧ s'.heap.get? x = some o ∧ o.cls = .ref C ∧ K.In s'.heap ∧ R (.ok (.ret v)) s' | _ => False) { s with toks := s.toks + 1 }) :
    codeAny (model prog w) A (.call (.ref C) ⟨rest, []⟩) R s := by
  obtain ⟨hh, g, d, tk, os⟩ := s
  have call := looks_specialIn (M := model prog w) X T.call
  have typ := looks_instIn (M := model prog w) X T.typ
  have hmr := looks_mro (M := model prog w) X T
  have hmade := looks_made (M := model prog w) X T
  obtain ⟨oc, od, cd, sl, hC, hdel, hb, hmm, h4⟩ := T.obj
  refine codeAny_of_tree ?_
  show wpAny _ _ (callAny (.ref C) _) _ _ _
  refine nd_load (X _ _ hC) ?_
  show wpAny _ _ (callAny.viaDunder (.ref C) _) _ _ _
  unfold callAny.viaDunder
  refine wpAny_bind (call.at ?_)
  dsimp only
  rw [tc_bind]
  refine wpAny_bind (wpAny_pure (wpAny_bind (wpAny_pure ?_)))
  refine wpAny_pure (a := Fin.again (.call (.builtin "type.__call__") ⟨.ref C :: rest, []⟩)) (And.intro rfl ?_)
  refine codeAny_call_builtin_at (Code.quiet_builtin _ (by decide +kernel)) entry_typeCall ?_
  with_reducible refine check_slot tc_kind tc_split typ (tc_args _ _ _) ?_
  unfold Builtin.«type.__call__»
  dsimp only
  refine wpAny_bind (hmr.at ?_)
  simp only [List.isEmpty_cons, Bool.false_eq_true, if_false]
  refine wpAny_bind (hmade.at ?_)
  dsimp only
  refine wpAny_bind ?_
  refine cls_bind (s := ⟨hh, g, d, tk, os⟩) X hr e (wpAny_call (sm_get (s := ⟨hh, g, d, tk + 1, os⟩) X hp (handed_on rfl ?_)))
  refine wpAny_bind (wpAny_holding (wpAny_call (codeAny_mono h fun r s' z => ?_)))
  rcases r with er | (v | _ | _ | _) <;> first | exact z.elim | skip
  obtain ⟨x, o, rfl, ho, hoc, X', hR⟩ := z
  obtain ⟨hh', g', d', tk', os'⟩ := s'
  have t1 : Looks (model prog w) hh' (typeOf (.ref x)) (.ref C) := hoc ▸ (Looks.ld ho).andThen .now
  have s1 : Looks (model prog w) hh' (isSubtype (.ref C) (.ref C)) true := looks_subIn X' T.me
  have s2 : Looks (model prog w) hh' (isSubtype (.ref C) (.type "object")) true := looks_subIn X' T.top
  have i1 : Looks (model prog w) hh' (typeLookup (.ref C) "__init__") (some (.builtin "object.__init__")) := looks_findIn X' T.init
  have m1 : Looks (model prog w) hh' (Bind.madeBy (.ref C)) none := looks_made X' T
  refine wpAny_bind ((t1.andThen s1 : Looks (model prog w) hh' (isInstance (.ref x) (.ref C)) true).at ?_)
  simp only [Bool.not_true, Bool.false_eq_true, if_false]
  refine wpAny_bind (wpAny_holding ?_)
  unfold callSpecial? specialOf
  refine wpAny_bind (wpAny_bind (t1.at (i1.at ?_)))
  dsimp only
  refine wpAny_holding ?_
  rw [oi_bind]
  refine wpAny_bind (wpAny_pure ?_)
  dsimp only
  refine wpAny_bind (wpAny_call (codeAny_call_builtin oi_plain entry_oi ?_))
  show wpAny _ _ (checkBuiltinCall "object.__init__" ⟨Value.ref x :: rest, []⟩) _ _ _
  with_reducible refine check_slot (s := ⟨hh', g', d', tk', os'⟩) oi_kind oi_split (t1.andThen s2) (harg x) ?_
  have fin : ∀ {A' : Around} {E' : Value → Shared → Prop} {Q' : Fin → Shared → Prop}, Q' (.done (.ret .none)) ⟨hh', g', d', tk', os'⟩ → wpAny (model prog w) A' (Builtin.«object.__init__» ⟨.ref x :: rest, []⟩) Q' E' ⟨hh', g', d', tk', os'⟩ := by
    intro A' E' Q' hq
    unfold Builtin.«object.__init__»
    dsimp only
    split
    · refine wpAny_bind (t1.at (wpAny_bind (i1.at ?_)))
      refine wpAny_bind (m1.at ?_)
      simp
      exact wpAny_pure hq
    · exact wpAny_pure hq
  exact fin (wpAny_pure (wpAny_pure hR))
end
theorem under_tc (dp un : Nat) (gd : Option (List Code)) (cn : Str) (cs : Scope) (L a : Addr) (ccd : Value) (cl : List (Str × Addr)) (outer : List Env) (C : Addr) (rest : List Value) (kw : List (Str × Value)) :
    (ktrTop dp un gd cn cs L a ccd cl outer).under (.builtin "type.__call__" ⟨.ref C :: rest, kw⟩) = ktrTop (dp + 1) (un + 1) gd cn cs L a ccd cl outer := by
  have hg : Code.isGuard (.builtin "type.__call__" ⟨.ref C :: rest, kw⟩) = false := (show guardIds.contains "type.__call__" = false by decide +kernel)
  have hgs : Code.guards (.builtin "type.__call__" ⟨.ref C :: rest, kw⟩) = [] := by unfold Code.guards; rw [hg]; rfl
  unfold Around.under
  rw [hgs]
  rfl
end Own
end
section
open PySem PySem.W PyProof.Rows PySem.Calls
namespace Own
section
variable {M : Model} {A : Around} {E : Value → Shared → Prop} {s : Shared} {env : Env}
theorem wpR_Assign_Attribute {o : Expr} {attr : Str} {pos' pos : Pos} {value : Expr} {Q : Flow → Shared → Prop}
    (h : wpR M A (eval value env) (fun v s₁ => wpAny M A (eval o env) (fun ov s₂ => wpAny M A (setAttr ov attr v) (fun _ => Q .next) E s₂) E s₁) E s)
    (hs : swapsWith value (some (.Attribute o attr pos')) pos.line env = pure false := by rfl) :
    wpR M A (exec (.Assign [.Attribute o attr pos'] value pos) env) Q E s := fun Γ p hi hL => by
  simp only [plainObj_exec_Assign_Attribute o attr pos' value pos hs, assign_Attribute, Sem.wp_bind', Sem.wp_holding, Sem.wp_cmd_standAt, Sem.wp_release, Sem.wp_pure']
  exact Sem.wp_mono M Γ _ (fun v p₁ s₁ h₁ => Sem.wp_mono M Γ _ (fun ov _ s₂ h₂ => h₂ Γ _ hi) (fun _ _ _ h' => h') _ _ (h₁ Γ p₁ hi)) (fun _ _ _ h' => h') _ _ (h Γ _ hi hL)
theorem wpR_isTrue_value {e : Expr} {whole : Sem Value} {Q : Bool → Shared → Prop} (h : wpR M A whole (fun v s₁ => wpAny M A (truthy v) Q E s₁) E s)
    (he : isTrue e env whole = (do let v ← whole; standAt e.pos; holding [v] (truthy v)) := by rfl) : wpR M A (isTrue e env whole) Q E s := by
  rw [he]
  exact wpR_bind (wpR_mono h (fun v s₁ h₁ => wpR_bindA (wpAny_standAt (wpR_of (wpAny_holding h₁)))) fun _ _ x => x)
theorem wpR_isTrue_BoolOp {op : BoolOp} {values : List Expr} {pos : Pos} {whole : Sem Value} {Q : Bool → Shared → Prop} (h : wpR M A (allTrue op values env) Q E s) :
    wpR M A (isTrue (.BoolOp op values pos) env whole) Q E s := by rw [arm_isTrue_BoolOp]; exact h
end
section
variable {prog : Program} {w : World} {A : Around} {E : Value → Shared → Prop} {s : Shared} {env : Env} {K : Frag}
theorem wpR_callK {f : Value} {first : List Value} {pos : Pos} {e : Expr} {rest : List Expr} {Q : Value → Shared → Prop} (hk : keepIn K f = true)
    (h : wpAny (model prog w) A (spliced (backTo pos (starEach (e :: rest) env))) (fun vs s₁ => K.In s₁.heap ∧ wpR (model prog w) A (call f (first ++ vs) []) Q E s₁) E s)
    (he : starEach (e :: rest) env = (false, eval e env) :: starEach rest env := by rfl) (hplain : (backTo pos (starEach rest env)).any (·.1) = false := by rfl) :
    wpR (model prog w) A (callWith pos f first (backTo pos (starEach (e :: rest) env)) []) Q E s := by
  rw [he] at h ⊢
  exact wpR_callWith (P := K.In) (by show (false || (backTo pos (starEach rest env)).any (·.1)) = false; rw [hplain]; rfl) (keeps_K hk) (wpR_of (evalArgs_plain h))
theorem wpR_callT {T : String} {first : List Value} {pos : Pos} {e : Expr} {rest : List Expr} {Q : Value → Shared → Prop}
    (h : wpAny (model prog w) A (spliced (backTo pos (starEach (e :: rest) env))) (fun vs s₁ => wpR (model prog w) A (call (.type T) (first ++ vs) []) Q E s₁) E s)
    (he : starEach (e :: rest) env = (false, eval e env) :: starEach rest env := by rfl) (hplain : (backTo pos (starEach rest env)).any (·.1) = false := by rfl) :
    wpR (model prog w) A (callWith pos (.type T) first (backTo pos (starEach (e :: rest) env)) []) Q E s := by
  rw [he] at h ⊢
  exact wpR_callWith (P := fun _ => True) (by show (false || (backTo pos (starEach rest env)).any (·.1)) = false; rw [hplain]; rfl) (keeps_type _) (wpR_of (evalArgs_plain (wpAny_mono h (fun _ _ z => ⟨trivial, z⟩) fun _ _ z => z)))
theorem wpR_callB {T : String} {first : List Value} {pos : Pos} {e : Expr} {rest : List Expr} {Q : Value → Shared → Prop}
    (h : wpAny (model prog w) A (spliced (backTo pos (starEach (e :: rest) env))) (fun vs s₁ => wpR (model prog w) A (call (.builtin T) (first ++ vs) []) Q E s₁) E s)
    (he : starEach (e :: rest) env = (false, eval e env) :: starEach rest env := by rfl) (hplain : (backTo pos (starEach rest env)).any (·.1) = false := by rfl) :
    wpR (model prog w) A (callWith pos (.builtin T) first (backTo pos (starEach (e :: rest) env)) []) Q E s := by
  rw [he] at h ⊢
  exact wpR_callWith (P := fun _ => True) (by show (false || (backTo pos (starEach rest env)).any (·.1)) = false; rw [hplain]; rfl) (keeps_builtin _) (wpR_of (evalArgs_plain (wpAny_mono h (fun _ _ z => ⟨trivial, z⟩) fun _ _ z => z)))
theorem wpR_callK0 {f : Value} {first : List Value} {pos : Pos} {Q : Value → Shared → Prop} (X : K.In s.heap) (hk : keepIn K f = true) (h : wpR (model prog w) A (call f (first ++ []) []) Q E s) :
    wpR (model prog w) A (callWith pos f first (backTo pos (starEach [] env)) []) Q E s :=
  wpR_callWith (P := K.In) rfl (keeps_K hk) (wpR_evalArgs0 ⟨X, h⟩)
theorem wpR_callM {q g : Addr} {self : Value} {h₀ : Heap} {L : Addr} {news : List (Addr × Obj)} {first : List Value} {pos : Pos} {e : Expr} {rest : List Expr} {Q : Value → Shared → Prop} (hf : fnIn K g = true)
    (h : wpAny (model prog w) A (spliced (backTo pos (starEach (e :: rest) env))) (fun vs s₁ => MethP K q g self s₁.heap ∧ wpR (model prog w) A (call (.ref q) (first ++ vs) []) Q E s₁) E s)
    (he : starEach (e :: rest) env = (false, eval e env) :: starEach rest env := by rfl) (hplain : (backTo pos (starEach rest env)).any (·.1) = false := by rfl) :
    wpR (model prog w) A (callWith pos (.ref q) first (backTo pos (starEach (e :: rest) env)) []) Q E s := by
  rw [he] at h ⊢
  exact wpR_callWith (P := MethP K q g self) (by show (false || (backTo pos (starEach rest env)).any (·.1)) = false; rw [hplain]; rfl) (keeps_M hf) (wpR_of (evalArgs_plain h))
theorem codeR_call_method {q g : Addr} {self : Value} {args : Args} {R : Result → Shared → Prop} (hq : s.heap.get? q = some (methodObj (.ref g) self))
    (h : codeR (model prog w) A (.call (.ref g) { args with pos := self :: args.pos }) R s) : codeR (model prog w) A (.call (.ref q) args) R s := by
  refine codeR_of_tree ?_
  show wpR _ _ (callAny (.ref q) _) _ _ _
  refine wpR_bindA (wpAny_load hq ?_)
  exact wpR_pure ⟨rfl, rfl, h⟩
end
end Own
end
section
open PySem PySem.W PyProof.Rows PySem.Calls PySem.Spec
namespace Own
theorem and_high (a b : Nat) (hb : b < 256) : (a * 256) &&& b = 0 := by
  apply Nat.eq_of_testBit_eq
  intro i
  rw [Nat.testBit_and, Nat.zero_testBit]
  rcases Nat.lt_or_ge i 8 with h | h
  · have : (a * 256).testBit i = false := by
      rw [show a * 256 = 2 ^ 8 * a by omega, Nat.testBit_two_pow_mul]
      simp; omega
    rw [this, Bool.false_and]
  · have : b.testBit i = false := Nat.testBit_lt_two_pow (Nat.lt_of_lt_of_le hb (by have := Nat.pow_le_pow_right (n := 2) (by decide) h; omega))
    rw [this, Bool.and_false]
theorem or_bytes (a b : Nat) (hb : b < 256) : Builtin.bitOr ((a : Int) * 2 ^ Int.toNat 8) (b : Int) = (a : Int) * 256 + b := by
  rw [bitOr_and]
  have e : Builtin.bitAnd ((a : Int) * 2 ^ Int.toNat 8) (b : Int) = 0 := by
    unfold Builtin.bitAnd
    rw [show ((a : Int) * 2 ^ Int.toNat 8) = ((a * 256 : Nat) : Int) by simp]
    simp only [Int.natCast_nonneg, decide_true, Int.toNat_natCast]
    rw [and_high a b hb]; rfl
  rw [e]
  have : (2 : Int) ^ Int.toNat 8 = 256 := by decide
  rw [this]; omega
end Own
end
section
open PySem PySem.W PyProof.Rows PySem.Calls PySem.Spec
namespace Own
section
variable {prog : Program} {w : World} {K : Frag} {p : Program} {loose : List Str} {mg mb : Str → Option Value} {bm : Addr} {ob : Obj} {kd ku : Nat} {f : Addr} {pos : List Value} {kw : List (Str × Value)} {sub : Led} {P : Value → Led → Prop}
  {dp un : Nat} {gd : Option (List Code)} {cn : Str} {cs : Scope} {L a : Addr} {ccd : Value} {cl : List (Str × Addr)} {outer : List Env} {A₀ : Around} {base h₀ : Heap} {m : Str → Option Value} {news : Led} {s : Shared} {Q E : Value → Shared → Prop}
theorem Spec.use (S : Spec prog w K p loose mg mb bm ob kd ku f pos kw sub P) (C : Cx K p loose mg mb bm ob A₀ base outer h₀) (F : Fr h₀ L s.heap m) (N : News h₀ L s.heap news) (hcs : cs.kind = .function) (hsub : ∀ q ∈ sub, q ∈ news) (hG : AllBare s.gens) (hd : dp + kd < recursionLimit) (hu : un + ku < cLine)
    (h : ∀ v nw h' tk' g', P v nw → Fr h₀ L h' m → (∀ l : Led, (∀ q ∈ l, q ∈ nw ∨ (q ∈ news ∧ q.1 ∉ sub.map (·.1))) → News h₀ L h' l) → (∀ q ∈ news, q.1 ∉ sub.map (·.1) → ∀ q' ∈ nw, q.1 ≠ q'.1) → AllBare g' → Q v ⟨h', g', s.drawn, tk', s.os⟩) :
    wpAny (model prog w) (ktrTop dp un gd cn cs L a ccd cl outer) (call (.ref f) pos kw) Q E s :=
  wpAny_call (S dp un gd cn cs L a ccd cl outer A₀ base h₀ m news s _ C F N hcs hsub hG hd hu h)
theorem SpecR.use (S : SpecR prog w K p loose mg mb bm ob kd ku f pos kw sub P) (C : Cx K p loose mg mb bm ob A₀ base outer h₀) (F : Fr h₀ L s.heap m) (N : News h₀ L s.heap news) (hcs : cs.kind = .function) (hsub : ∀ q ∈ sub, q ∈ news) (hG : AllBare s.gens) (hd : dp + kd < recursionLimit) (hu : un + ku < cLine)
    (h : ∀ v nw h' tk' g', P v nw → Fr h₀ L h' m → (∀ l : Led, (∀ q ∈ l, q ∈ nw ∨ (q ∈ news ∧ q.1 ∉ sub.map (·.1))) → News h₀ L h' l) → (∀ q ∈ news, q.1 ∉ sub.map (·.1) → ∀ q' ∈ nw, q.1 ≠ q'.1) → AllBare g' → Q v ⟨h', g', s.drawn, tk', s.os⟩) :
    wpR (model prog w) (ktrTop dp un gd cn cs L a ccd cl outer) (call (.ref f) pos kw) Q E s :=
  wpR_call (S dp un gd cn cs L a ccd cl outer A₀ base h₀ m news s _ C F N hcs hsub hG hd hu h)
/-- a call that asks for nothing of the ledger: all of it stays, what it made comes ahead -/
theorem Spec.use0 (S : Spec prog w K p loose mg mb bm ob kd ku f pos kw [] P) (C : Cx K p loose mg mb bm ob A₀ base outer h₀) (F : Fr h₀ L s.heap m) (N : News h₀ L s.heap news) (hcs : cs.kind = .function) (hG : AllBare s.gens) (hd : dp + kd < recursionLimit) (hu : un + ku < cLine)
    (h : ∀ v nw h' tk' g', P v nw → Fr h₀ L h' m → News h₀ L h' (nw ++ news) → (∀ q ∈ news, ∀ q' ∈ nw, q.1 ≠ q'.1) → AllBare g' → Q v ⟨h', g', s.drawn, tk', s.os⟩) :
    wpAny (model prog w) (ktrTop dp un gd cn cs L a ccd cl outer) (call (.ref f) pos kw) Q E s :=
  S.use C F N hcs (fun _ hq => nomatch hq) hG hd hu fun v nw h' tk' g' hP F' hN hap hG' => h v nw h' tk' g' hP F' (hN _ fun q hq => (List.mem_append.mp hq).imp id fun hq => ⟨hq, List.not_mem_nil⟩) (fun q hq q' hq' => hap q hq List.not_mem_nil q' hq') hG'
theorem SpecR.use0 (S : SpecR prog w K p loose mg mb bm ob kd ku f pos kw [] P) (C : Cx K p loose mg mb bm ob A₀ base outer h₀) (F : Fr h₀ L s.heap m) (N : News h₀ L s.heap news) (hcs : cs.kind = .function) (hG : AllBare s.gens) (hd : dp + kd < recursionLimit) (hu : un + ku < cLine)
    (h : ∀ v nw h' tk' g', P v nw → Fr h₀ L h' m → News h₀ L h' (nw ++ news) → (∀ q ∈ news, ∀ q' ∈ nw, q.1 ≠ q'.1) → AllBare g' → Q v ⟨h', g', s.drawn, tk', s.os⟩) :
    wpR (model prog w) (ktrTop dp un gd cn cs L a ccd cl outer) (call (.ref f) pos kw) Q E s :=
  S.use C F N hcs (fun _ hq => nomatch hq) hG hd hu fun v nw h' tk' g' hP F' hN hap hG' => h v nw h' tk' g' hP F' (hN _ fun q hq => (List.mem_append.mp hq).imp id fun hq => ⟨hq, List.not_mem_nil⟩) (fun q hq q' hq' => hap q hq List.not_mem_nil q' hq') hG'
/-- a call that answers by value alone: the ledger stays as it is -/
theorem Spec.useV (S : Spec prog w K p loose mg mb bm ob kd ku f pos kw [] P) (C : Cx K p loose mg mb bm ob A₀ base outer h₀) (F : Fr h₀ L s.heap m) (N : News h₀ L s.heap news) (hcs : cs.kind = .function) (hG : AllBare s.gens) (hd : dp + kd < recursionLimit) (hu : un + ku < cLine)
    (h : ∀ v nw h' tk' g', P v nw → Fr h₀ L h' m → News h₀ L h' news → AllBare g' → Q v ⟨h', g', s.drawn, tk', s.os⟩) :
    wpAny (model prog w) (ktrTop dp un gd cn cs L a ccd cl outer) (call (.ref f) pos kw) Q E s :=
  S.use0 C F N hcs hG hd hu fun v nw h' tk' g' hP F' hN _ hG' => h v nw h' tk' g' hP F' (fun q hq => hN q (List.mem_append_right _ hq)) hG'
theorem SpecR.useV (S : SpecR prog w K p loose mg mb bm ob kd ku f pos kw [] P) (C : Cx K p loose mg mb bm ob A₀ base outer h₀) (F : Fr h₀ L s.heap m) (N : News h₀ L s.heap news) (hcs : cs.kind = .function) (hG : AllBare s.gens) (hd : dp + kd < recursionLimit) (hu : un + ku < cLine)
    (h : ∀ v nw h' tk' g', P v nw → Fr h₀ L h' m → News h₀ L h' news → AllBare g' → Q v ⟨h', g', s.drawn, tk', s.os⟩) :
    wpR (model prog w) (ktrTop dp un gd cn cs L a ccd cl outer) (call (.ref f) pos kw) Q E s :=
  S.use0 C F N hcs hG hd hu fun v nw h' tk' g' hP F' hN _ hG' => h v nw h' tk' g' hP F' (fun q hq => hN q (List.mem_append_right _ hq)) hG'
end
end Own
end
section
open PySem PySem.W PyProof.Rows PySem.Calls PySem.Spec
namespace Own
theorem raisedN_mono {base : Heap} {l : List Env} {e : Addr} {cls : Value} {n n' : Led} {h : Heap} (x : RaisedN base l e cls n h) (k : ∀ q ∈ n', q ∈ n) : RaisedN base l e cls n' h :=
  let ⟨B, a0, a, b, c⟩ := x; ⟨B, a0, a, fun q hq => b q (k q hq), c⟩
/-- as SpecR, with an outcome by raising -/
def SpecX (prog : Program) (w : World) (K : Frag) (p : Program) (loose : List Str) (mg mb : Str → Option Value) (bm : Addr) (ob : Obj) (kd ku : Nat) (f : Addr) (pos : List Value) (kw : List (Str × Value)) (sub : Led) (P : Value → Led → Prop) (PE : String → Led → Prop) : Prop :=
  ∀ (dp un : Nat) (gd : Option (List Code)) (cn : Str) (cs : Scope) (L a : Addr) (ccd : Value) (cl : List (Str × Addr)) (outer : List Env) (A₀ : Around) (base h₀ : Heap) (m : Str → Option Value) (news : Led) (s : Shared) (R : Result → Shared → Prop),
    Cx K p loose mg mb bm ob A₀ base outer h₀ → Fr h₀ L s.heap m → News h₀ L s.heap news → cs.kind = .function → (∀ q ∈ sub, q ∈ news) → AllBare s.gens → dp + kd < recursionLimit → un + ku < cLine →
    (∀ v nw h' tk' g', P v nw → Fr h₀ L h' m → (∀ l : Led, (∀ q ∈ l, q ∈ nw ∨ (q ∈ news ∧ q.1 ∉ sub.map (·.1))) → News h₀ L h' l) →
      (∀ q ∈ news, q.1 ∉ sub.map (·.1) → ∀ q' ∈ nw, q.1 ≠ q'.1) → AllBare g' → R (.ok (.ret v)) ⟨h', g', s.drawn, tk', s.os⟩) →
    (∀ e cls nw h' tk' g', PE cls nw → (∀ l : Led, (∀ q ∈ l, q ∈ nw ∨ (q ∈ news ∧ q.1 ∉ sub.map (·.1))) → RaisedN base (envX cn cs L a ccd cl :: outer) e (.type cls) l h') →
      (hideAll s.heap (news.map (·.1))).UpToSlots h' → AllBare g' → R (.error (.ref e)) ⟨h', g', s.drawn, tk', s.os⟩) →
    codeR (model prog w) (ktrTop dp un gd cn cs L a ccd cl outer) (.call (.ref f) ⟨pos, kw⟩) R s

section
variable {prog : Program} {w : World} {K : Frag} {p : Program} {loose : List Str} {mg mb : Str → Option Value} {bm : Addr} {ob : Obj} {kd ku : Nat} {f : Addr} {sub : Led} {P : Value → Led → Prop} {PE : String → Led → Prop}
theorem specX_of {name qual : Str} {params : Arguments} {body : List Stmt} {scope : Scope} {dV kV doc pm cdv ct oc : Value} {an od : Option Addr} {osl : Array (Option Value)} {pos : List Value} {kw : List (Str × Value)} {binds : List (Str × Value)}
    (ho : K.lookup f = some ⟨oc, od, .func (fnX name qual params body scope [] dV kV doc pm an cdv ct), osl⟩) (hcd : codeIn K cdv qual = true)
    (hbind : ∀ s : Shared, K.In s.heap → BindsTo s (fnX name qual params body scope [] dV kV doc pm an cdv ct) ⟨pos, kw⟩ binds)
    (hloc : ∀ y ∈ binds, scope.names.lookup y.1 = some .local) (hcell : ∀ x ∈ scope.names, x.2 ≠ .cell)
    (hb : ∀ (dp un : Nat) (gd : Option (List Code)) (L : Addr) (outer : List Env) (A₀ : Around) (base g h₁ : Heap) (gn : Array GenState) (d : Drawn) (tk : Nat) (os : OsState) (X : Value → Shared → Prop),
      Cx K p loose mg mb bm ob A₀ base outer g → Fr g L h₁ (fun y => binds.reverse.lookup y) → News g L h₁ sub → (∀ q ∈ sub, q.1 < L) → AllBare gn → dp + kd < recursionLimit + 1 → un + ku < cLine + 3 →
      (∀ e h m nw cls s', Heap.NewExc h s'.heap e cls → Fr g L h m → News g L h nw → PE cls nw → AllBare s'.gens → s'.drawn = d → s'.os = os → X (.ref e) s') →
      PassesOwn (model prog w) (ktrTop dp un gd qual scope L f cdv [] outer) (envX qual scope L f cdv []) X →
      wpR (model prog w) (ktrTop dp un gd qual scope L f cdv [] outer) (execs body (envX qual scope L f cdv [])) (fun fl s' => Ret g d os P (retOf fl) s') X ⟨h₁, gn, d, tk, os⟩)
    (hco : scope.isCoroutine = false) (hgen : scope.isGenerator = false) (hk : scope.kind = .function) (hkd : 0 < kd) :
    SpecX prog w K p loose mg mb bm ob kd ku f pos kw sub P PE := by
  intro dp un gd cn cs L a ccd cl outer A₀ base h₀ m news s R C F N hcs hsub hG hd hu hret herr
  have Ns : News h₀ L s.heap sub := fun q hq => N q (hsub q hq)
  have X := C.X.keeps F.keep
  obtain ⟨FG, BG, st, lv⟩ := groundX (A := ktrTop dp un gd cn cs L a ccd cl outer) (env := envX cn cs L a ccd cl) (R := R) C.B F Ns rfl rfl hcs
  obtain ⟨FG2, BG2, st2, lv2⟩ := groundX (A := ktrTop dp un gd cn cs L a ccd cl outer) (env := envX cn cs L a ccd cl) (R := R) C.B F N rfl rfl hcs
  have hlim := C.T.nolimit.keeps F.keep
  refine codeR_call_def (fd := fnX name qual params body scope [] dV kV doc pm an cdv ct) (body := body) (binds := binds) (by show dp < recursionLimit; omega) (X _ _ ho) rfl hlim (codeRec_of X hcd) rfl (hbind s X) hcell hloc (fun h₁ hns hk₁ => ?_) hco hgen hk
  have hF' : Fr (hideAll s.heap (sub.map (·.1))) s.heap.objs.size h₁ (fun y => binds.reverse.lookup y) := ⟨hns, fun b o e => hk₁ b o (of_hideAll _ e), Nat.le_of_eq (hideAll_size _ _)⟩
  have hN' : News (hideAll s.heap (sub.map (·.1))) s.heap.objs.size h₁ sub := fun q hq => ⟨hk₁ _ _ (Ns q hq).1, Nat.ne_of_lt (Heap.lt_size (Ns q hq).1), hideAll_none _ (List.mem_map_of_mem hq)⟩
  have hX' : Cx K p loose mg mb bm ob (ktrTop dp un gd cn cs L a ccd cl outer) base (envX cn cs L a ccd cl :: outer) (hideAll s.heap (sub.map (·.1))) := ⟨BG, C.X.keeps st, C.T.keeps st, ⟨C.M.ns.keeps st, C.M.name, C.M.ne, st _ _ C.M.obj, C.M.cls, C.M.dict, C.M.data⟩⟩
  obtain ⟨hh, gn, d, t, os⟩ := s
  have hsubA : ∀ b, b ∈ sub.map (·.1) → b ∈ news.map (·.1) := fun b hb => by
    obtain ⟨q, hq, e⟩ := List.mem_map.mp hb
    exact List.mem_map.mpr ⟨q, hsub q hq, e⟩
  have g2g : ∀ b o, (hideAll hh (news.map (·.1))).get? b = some o → (hideAll hh (sub.map (·.1))).get? b = some o := fun b o e =>
    hideAll_get _ (of_hideAll _ e) fun hm => by rw [hideAll_none _ (hsubA b hm)] at e; cases e
  have nmL : ∀ q ∈ news, q.1 ∉ sub.map (·.1) → (hideAll hh (sub.map (·.1))).get? q.1 = some q.2 := fun q hq hn => hideAll_get _ (N q hq).1 hn
  refine wpR_mono (hb (dp + 1) (un + 3) gd hh.objs.size (envX cn cs L a ccd cl :: outer) _ base _ h₁ gn d (t + binds.length) os _ hX' hF' hN' (fun q hq => Heap.lt_size (Ns q hq).1) hG (by omega) (by omega) ?_ PassesOwn.leaving) (fun fl s' hl => ?_) (fun _ _ x => x)
  · intro e h m₂ nw cls s' hx F₂ N₂ hPE hG' hdr hos
    obtain ⟨h', g', d', t', os'⟩ := s'
    simp only at hdr hos hG' hx
    subst hdr; subst hos
    have F3 : Fr (hideAll hh (news.map (·.1))) hh.objs.size h m₂ := ⟨F₂.ns, fun b o eb => F₂.keep b o (g2g b o eb), Nat.le_of_eq (hideAll_size _ _)⟩
    have N3 : News (hideAll hh (news.map (·.1))) hh.objs.size h (nw ++ news.filter fun q => decide (q.1 ∉ sub.map (·.1))) := fun q hq => by
      rcases List.mem_append.mp hq with hq | hq
      · refine ⟨(N₂ q hq).1, (N₂ q hq).2.1, ?_⟩
        cases z : (hideAll hh (news.map (·.1))).get? q.1 with
        | none => rfl
        | some o => have := (N₂ q hq).2.2; rw [g2g _ _ z] at this; cases this
      · obtain ⟨hq, hn⟩ := List.mem_filter.mp hq
        exact ⟨F₂.keep _ _ (nmL q hq (of_decide_eq_true hn)), Nat.ne_of_lt (Heap.lt_size (N q hq).1), hideAll_none _ (List.mem_map_of_mem hq)⟩
    refine leave_newK (name := qual) (scope := scope) (a := f) (cd := cdv) BG2 hx F3 N3 (fun h₂ hR hU => ?_) hk
    exact herr e cls nw h₂ t' g' hPE (fun l hl => raisedN_mono hR fun q hq => (hl q hq).elim (fun z => List.mem_append_left _ z) fun z => List.mem_append_right _ (List.mem_filter.mpr ⟨z.1, decide_eq_true z.2⟩)) hU hG'
  · obtain ⟨L', m', nw, F₂, N₂, hP, hG', hdr, hos⟩ := hl
    obtain ⟨h', g', d', t', os'⟩ := s'
    simp only at hdr hos F₂ N₂ hG'
    subst hdr; subst hos
    have keepL : ∀ b o, h₀.get? b = some o → h'.get? b = some o := fun b o e => F₂.keep b o (st b o e)
    have FL : Fr h₀ L h' m := ⟨FG.ns.keeps F₂.keep, keepL, F.above⟩
    have hne : ∀ q ∈ nw, q.1 ≠ L := fun q hq e => by
      obtain ⟨oL, es, ep, hL, _⟩ := FG.ns
      have := (N₂ q hq).2.2; rw [e, hL] at this; cases this
    cases fl <;> (
      refine hret _ nw h' t' g' hP FL (fun l hl q hq => ?_) (fun q hq hn q' hq' e => ?_) hG'
      · rcases hl q hq with hq | ⟨hq, hn⟩
        · refine ⟨(N₂ q hq).1, hne q hq, ?_⟩
          cases z : h₀.get? q.1 with
          | none => rfl
          | some o => have := (N₂ q hq).2.2; rw [st _ _ z] at this; cases this
        · exact ⟨F₂.keep _ _ (nmL q hq hn), (N q hq).2⟩
      · have := (N₂ q' hq').2.2
        rw [← e, nmL q hq hn] at this; cases this)
end
end Own
end
section
open PySem PySem.W PyProof.Rows PySem.Calls PySem.Spec
namespace Own
section
variable {prog : Program} {w : World} {K : Frag} {p : Program} {loose : List Str} {mg mb : Str → Option Value} {bm : Addr} {ob : Obj} {kd ku : Nat} {f : Addr} {pos : List Value} {kw : List (Str × Value)} {sub : Led} {P : Value → Led → Prop} {PE : String → Led → Prop}
  {dp un : Nat} {gd : Option (List Code)} {cn : Str} {cs : Scope} {L a : Addr} {ccd : Value} {cl : List (Str × Addr)} {outer : List Env} {A₀ : Around} {base h₀ : Heap} {m : Str → Option Value} {news : Led} {s : Shared} {Q E : Value → Shared → Prop}
/-- a bound method called -/
theorem SpecR.useM {self : Value} {q : Addr} (S : SpecR prog w K p loose mg mb bm ob kd ku f (self :: pos) kw sub P) (hq : s.heap.get? q = some (methodObj (.ref f) self)) (C : Cx K p loose mg mb bm ob A₀ base outer h₀) (F : Fr h₀ L s.heap m) (N : News h₀ L s.heap news) (hcs : cs.kind = .function) (hsub : ∀ q ∈ sub, q ∈ news) (hG : AllBare s.gens) (hd : dp + kd < recursionLimit) (hu : un + ku < cLine)
    (h : ∀ v nw h' tk' g', P v nw → Fr h₀ L h' m → (∀ l : Led, (∀ q ∈ l, q ∈ nw ∨ (q ∈ news ∧ q.1 ∉ sub.map (·.1))) → News h₀ L h' l) → (∀ q ∈ news, q.1 ∉ sub.map (·.1) → ∀ q' ∈ nw, q.1 ≠ q'.1) → AllBare g' → Q v ⟨h', g', s.drawn, tk', s.os⟩) :
    wpR (model prog w) (ktrTop dp un gd cn cs L a ccd cl outer) (call (.ref q) pos kw) Q E s :=
  wpR_call (codeR_call_method hq (S dp un gd cn cs L a ccd cl outer A₀ base h₀ m news s _ C F N hcs hsub hG hd hu h))
/-- a call that may raise -/
theorem SpecX.use (S : SpecX prog w K p loose mg mb bm ob kd ku f pos kw sub P PE) (C : Cx K p loose mg mb bm ob A₀ base outer h₀) (F : Fr h₀ L s.heap m) (N : News h₀ L s.heap news) (hcs : cs.kind = .function) (hsub : ∀ q ∈ sub, q ∈ news) (hG : AllBare s.gens) (hd : dp + kd < recursionLimit) (hu : un + ku < cLine)
    (h : ∀ v nw h' tk' g', P v nw → Fr h₀ L h' m → (∀ l : Led, (∀ q ∈ l, q ∈ nw ∨ (q ∈ news ∧ q.1 ∉ sub.map (·.1))) → News h₀ L h' l) → (∀ q ∈ news, q.1 ∉ sub.map (·.1) → ∀ q' ∈ nw, q.1 ≠ q'.1) → AllBare g' → Q v ⟨h', g', s.drawn, tk', s.os⟩)
    (he : ∀ e cls nw h' tk' g', PE cls nw → (∀ l : Led, (∀ q ∈ l, q ∈ nw ∨ (q ∈ news ∧ q.1 ∉ sub.map (·.1))) → RaisedN base (envX cn cs L a ccd cl :: outer) e (.type cls) l h') →
      (hideAll s.heap (news.map (·.1))).UpToSlots h' → AllBare g' → E (.ref e) ⟨h', g', s.drawn, tk', s.os⟩) :
    wpR (model prog w) (ktrTop dp un gd cn cs L a ccd cl outer) (call (.ref f) pos kw) Q E s :=
  wpR_call (S dp un gd cn cs L a ccd cl outer A₀ base h₀ m news s _ C F N hcs hsub hG hd hu h he)
/-- a call that leaves its part of the ledger as it was -/
theorem keep_led {h₀ h h' : Heap} {L : Addr} {news sub nw : Led} (N : News h₀ L h news) (hsub : ∀ q ∈ sub, q ∈ news) (hs : ∀ q ∈ sub, q ∈ nw) (hN : ∀ l : Led, (∀ q ∈ l, q ∈ nw ∨ (q ∈ news ∧ q.1 ∉ sub.map (·.1))) → News h₀ L h' l) : News h₀ L h' news := by
  refine hN _ fun q hq => ?_
  by_cases hm : q.1 ∈ sub.map (·.1)
  · obtain ⟨r, hr, e⟩ := List.mem_map.mp hm
    have h1 := (N q hq).1
    have h2 := (N r (hsub r hr)).1
    rw [e] at h2
    rw [h1] at h2
    have : q = r := Prod.ext e.symm (Option.some.inj h2)
    exact .inl (this ▸ hs r hr)
  · exact .inr ⟨hq, hm⟩
theorem Spec.useS (S : Spec prog w K p loose mg mb bm ob kd ku f pos kw sub P) (hs : ∀ v nw, P v nw → ∀ q ∈ sub, q ∈ nw) (C : Cx K p loose mg mb bm ob A₀ base outer h₀) (F : Fr h₀ L s.heap m) (N : News h₀ L s.heap news) (hcs : cs.kind = .function) (hsub : ∀ q ∈ sub, q ∈ news) (hG : AllBare s.gens) (hd : dp + kd < recursionLimit) (hu : un + ku < cLine)
    (h : ∀ v nw h' tk' g', P v nw → Fr h₀ L h' m → News h₀ L h' news → AllBare g' → Q v ⟨h', g', s.drawn, tk', s.os⟩) :
    wpAny (model prog w) (ktrTop dp un gd cn cs L a ccd cl outer) (call (.ref f) pos kw) Q E s :=
  S.use C F N hcs hsub hG hd hu fun v nw h' tk' g' hP F' hN _ hG' => h v nw h' tk' g' hP F' (keep_led N hsub (hs v nw hP) hN) hG'
end
end Own
namespace Own
theorem wpR_IfExp {M : Model} {A : Around} {E : Value → Shared → Prop} {s : Shared} {env : Env} {test body orelse : Expr} {pos : Pos} {Q : Value → Shared → Prop}
    (h : wpR M A (isTrue test env (eval test env)) (fun b s₁ => if b then wpR M A (eval body env) Q E s₁ else wpR M A (eval orelse env) Q E s₁) E s) :
    wpR M A (eval (.IfExp test body orelse pos) env) Q E s := by
  rw [eval_IfExp]
  refine wpR_bind (wpR_mono h (fun b s₁ h₁ => ?_) fun _ _ x => x)
  cases b <;> exact h₁
end Own
namespace Own
/-- a call that changes some objects of its part only -/
theorem upd_led {h₀ h h' : Heap} {L : Addr} {news sub nw rest : Led} (changed : List Addr) (N : News h₀ L h news) (hsub : ∀ q ∈ sub, q ∈ news) (h1 : ∀ q ∈ sub, q.1 ∈ changed ∨ q ∈ nw)
    (hN : ∀ l : Led, (∀ q ∈ l, q ∈ nw ∨ (q ∈ news ∧ q.1 ∉ sub.map (·.1))) → News h₀ L h' l) (hr : ∀ q ∈ rest, q ∈ news ∧ q.1 ∉ changed) : News h₀ L h' (nw ++ rest) := by
  refine hN _ fun q hq => ?_
  rcases List.mem_append.mp hq with hq | hq
  · exact .inl hq
  · obtain ⟨hq, hc⟩ := hr q hq
    by_cases hm : q.1 ∈ sub.map (·.1)
    · obtain ⟨r, hr, e⟩ := List.mem_map.mp hm
      have h3 := (N q hq).1
      have h2 := (N r (hsub r hr)).1
      rw [e] at h2
      rw [h3] at h2
      have : q = r := Prod.ext e.symm (Option.some.inj h2)
      subst this
      exact .inl ((h1 q hr).resolve_left hc)
    · exact .inr ⟨hq, hm⟩
end Own
namespace Own
section
variable {prog : Program} {w : World} {K : Frag} {p : Program} {loose : List Str} {mg mb : Str → Option Value} {bm : Addr} {ob : Obj} {kd ku : Nat} {f : Addr} {pos : List Value} {kw : List (Str × Value)} {sub sub' : Led} {P P' : Value → Led → Prop}
theorem Spec.toR (S : Spec prog w K p loose mg mb bm ob kd ku f pos kw sub P) : SpecR prog w K p loose mg mb bm ob kd ku f pos kw sub P :=
  fun dp un gd cn cs L a ccd cl outer A₀ base h₀ m news s R C F N hcs hsub hG hd hu hret => codeR_of (S dp un gd cn cs L a ccd cl outer A₀ base h₀ m news s R C F N hcs hsub hG hd hu hret)
theorem SpecR.mono (S : SpecR prog w K p loose mg mb bm ob kd ku f pos kw sub P) (h : ∀ v nw, P v nw → P' v nw) : SpecR prog w K p loose mg mb bm ob kd ku f pos kw sub P' :=
  fun dp un gd cn cs L a ccd cl outer A₀ base h₀ m news s R C F N hcs hsub hG hd hu hret => S dp un gd cn cs L a ccd cl outer A₀ base h₀ m news s R C F N hcs hsub hG hd hu fun v nw h' tk' g' hP => hret v nw h' tk' g' (h v nw hP)
/-- a call told of a larger part of the ledger -/
theorem SpecR.widen (S : SpecR prog w K p loose mg mb bm ob kd ku f pos kw sub P) (hs : ∀ q ∈ sub, q ∈ sub') (rest : Led) (hr : ∀ r ∈ rest, r ∈ sub') (changed : List Addr) (hc : ∀ g L h, News g L h sub' → ∀ r ∈ rest, r.1 ∉ changed)
    (hk : ∀ v nw, P v nw → ∀ q ∈ sub, q.1 ∈ changed ∨ q ∈ nw) : SpecR prog w K p loose mg mb bm ob kd ku f pos kw sub' (fun v nw' => ∃ nw, P v nw ∧ nw' = nw ++ rest) := by
  intro dp un gd cn cs L a ccd cl outer A₀ base h₀ m news s R C F N hcs hsub hG hd hu hret
  refine S dp un gd cn cs L a ccd cl outer A₀ base h₀ m news s R C F N hcs (fun q hq => hsub q (hs q hq)) hG hd hu fun v nw h' tk' g' hP F' hN hap hG' => hret v (nw ++ rest) h' tk' g' ⟨nw, hP, rfl⟩ F' (fun l hl => hN l fun q hq => ?_) (fun q hq hn q' hq' => ?_) hG'
  · rcases hl q hq with h | ⟨h, hn⟩
    · rcases List.mem_append.mp h with h | h
      · exact .inl h
      · by_cases hm : q.1 ∈ sub.map (·.1)
        · obtain ⟨r, hr', e⟩ := List.mem_map.mp hm
          have h3 := (N q (hsub q (hr q h))).1
          have h2 := (N r (hsub r (hs r hr'))).1
          rw [e] at h2
          rw [h3] at h2
          have : q = r := Prod.ext e.symm (Option.some.inj h2)
          subst this
          exact .inl ((hk v nw hP q hr').resolve_left (hc h₀ L s.heap (fun z hz => N z (hsub z hz)) q h))
        · exact .inr ⟨hsub q (hr q h), hm⟩
    · exact .inr ⟨h, fun hm => hn (by
        obtain ⟨r, hr', e⟩ := List.mem_map.mp hm
        exact List.mem_map.mpr ⟨r, hs r hr', e⟩)⟩
  · rcases List.mem_append.mp hq' with h | h
    · refine hap q hq (fun hm => hn ?_) q' h
      obtain ⟨r, hr', e⟩ := List.mem_map.mp hm
      exact List.mem_map.mpr ⟨r, hs r hr', e⟩
    · exact fun e => hn (List.mem_map.mpr ⟨q', hr q' h, e.symm⟩)
end
end Own
namespace Own
theorem news_tl {g h : Heap} {L : Addr} {a : Addr × Obj} {l : Led} (N : News g L h (a :: l)) : News g L h l := fun q hq => N q (.tail _ hq)
theorem news_hd {g h : Heap} {L : Addr} {a : Addr × Obj} {l : Led} (N : News g L h l) (ha : a ∈ l) : News g L h (a :: l) := fun q hq => by
  rcases List.mem_cons.mp hq with rfl | hq
  · exact N _ ha
  · exact N _ hq
end Own
namespace Own
theorem not_sub {g h : Heap} {L : Addr} {news sub : Led} {q : Addr × Obj} (N : News g L h news) (hq : q ∈ news) (hs : ∀ r ∈ sub, r ∈ news) (hc : ∀ r ∈ sub, q.2.cls ≠ r.2.cls ∨ @Ne Nat q.1 r.1) : q.1 ∉ sub.map (·.1) := fun hm => by
  obtain ⟨r, hr, e⟩ := List.mem_map.mp hm
  rcases hc r hr with h1 | h1
  · have h2 := (N q hq).1
    have h3 := (N r (hs r hr)).1
    rw [e, h2] at h3
    exact h1 (congrArg (·.cls) (Option.some.inj h3))
  · exact h1 e.symm
theorem nodup_take {α : Type} {l : List α} {i : Nat} {m : α} (h : l.Nodup) (hi : l[i]? = some m) : m ∉ l.take i := by
  obtain ⟨hlt, e⟩ := List.getElem?_eq_some_iff.mp hi
  have : l = l.take i ++ m :: l.drop (i + 1) := by
    rw [← e, List.getElem_cons_drop, List.take_append_drop]
  rw [this] at h
  intro hm
  exact (List.nodup_append.mp h).2.2 m hm m (.head _) rfl
end Own
end
section
open PySem PySem.W PyProof.Rows PySem.Calls PySem.Spec
namespace Own
section
variable {prog : Program} {w : World} {A : Around} {E : Value → Shared → Prop} {s : Shared} {K : Frag} {h₀ : Heap} {L x C : Addr} {m : Str → Option Value} {ox : Obj} {od : Option Obj} {news : Led}
/-- a bound method taken from an instance without a dict of its own -/
theorem get_bmeth {expr : Bool} {name : Str} {Q : Value → Shared → Prop} {p : Addr} (F : Fr h₀ L s.heap m) (X₀ : K.In h₀) (N : News h₀ L s.heap news) (I : InstAt s.heap x ox C od) (hg : plainGet K C name = true)
    (hf : findObj K C od name = some (.bind (.builtin "function.__get__") (.ref p))) (hp : isFn K (.ref p) = true)
    (h : ∀ q h', Fr h₀ L h' m → News h₀ L h' ((q, methodObj (.ref p) (.ref x)) :: news) → (∀ r ∈ news, r.1 < q) → Q (.ref q) { s with heap := h', toks := s.toks + 1 }) :
    wpAny (model prog w) A (getAttr (.ref x) name expr) Q E s := by
  refine get_bind (X₀.keeps F.keep) I (plainGet_of hg).1 hf (plainGet_of hg).2 (wpAny_call (fn_get (s := { s with toks := s.toks + 1 }) (X₀.keeps F.keep) (beq_iff_eq.mp hp) ?_))
  exact handed_on rfl (h _ _ (keep_fr F fun b o e => Heap.get?_push_of_some _ e) (news_fresh F N (fun b o e => Heap.get?_push_of_some _ e) (Heap.get?_push_size _ rfl)) fun r hr => Heap.lt_size (N r hr).1)
end
end Own
end
section
open PySem PySem.W PyProof.Rows PySem.Calls PySem.Spec Builtin
namespace Own
/-- an iterator that is one object of the heap, stepping from `ob 0` to `ob n` -/
structure Steps (prog : Program) (w : World) (A : Around) (I : Addr) (n : Nat) (ob : Nat → Obj) (side : Heap → Prop) (P : Nat → Value → Prop) : Prop where
  item : ∀ (i : Nat) (s : Shared) (Q : Option Value → Shared → Prop) (E : Value → Shared → Prop), i < n → s.heap.get? I = some (ob i) → side s.heap →
    (∀ v h' tk, P i v → h'.get? I = some (ob (i + 1)) → Heap.SameBut I s.heap h' → Q (some v) { s with heap := h', toks := tk }) → wpAny (model prog w) A (pyNext (.ref I)) Q E s
  done : ∀ (s : Shared) (Q : Option Value → Shared → Prop) (E : Value → Shared → Prop), s.heap.get? I = some (ob n) → side s.heap →
    (∀ h' tk, Heap.ExtBut I s.heap h' → Q none { s with heap := h', toks := tk }) → wpAny (model prog w) A (pyNext (.ref I)) Q E s
section
variable {prog : Program} {w : World} {A : Around}
theorem Steps.range (hh : A.handled = none) (I : Addr) (a c : Int) (n : Nat) : Steps prog w A I n (fun i => riObj (a + (i : Nat) * c) ((n : Int) - (i : Nat)) c) (fun _ => True) (fun i v => ∃ t, v = .int (a + (i : Nat) * c) t) where
  item := fun i s Q E hi ho _ hQ => by
    refine wpAny_pyNext_range_item ho (by omega) fun h' hit' hs' => ?_
    refine hQ _ h' _ ⟨_, rfl⟩ ?_ hs'
    have e1 : a + ((i + 1 : Nat) : Int) * c = a + (i : Int) * c + c := by push_cast; rw [Int.add_mul, Int.one_mul, Int.add_assoc]
    have e2 : (n : Int) - ((i + 1 : Nat) : Int) = (n : Int) - (i : Int) - 1 := by push_cast; omega
    rw [e1, e2]; exact hit'
  done := fun s Q E ho _ hQ => wpAny_pyNext_range_end hh ho (by omega) fun h' he' => hQ h' s.toks he'
abbrev liObj (l : Addr) (i : Nat) : Obj := { cls := .type "list_iterator", data := .fields #[.ref l, .int i 0] }
section
variable {s : Shared} {g : Heap} {cn : Str} {cs : Scope} {L a : Addr} {ccd : Value} {cl : List (Str × Addr)} {x : Str} {px : Pos} {body : List Stmt} {R : Result → Shared → Prop}
theorem forR {I : Addr} {n : Nat} {ob : Nat → Obj} {side : Heap → Prop} {P : Nat → Value → Prop} {m : Str → Option Value} {news : Led} (S : Steps prog w A I n ob side P) (_ : True)
    (hx : (envX cn cs L a ccd cl).kindOf x = some .local) (hp : ((envX cn cs L a ccd cl).scope.kind == .class || ((envX cn cs L a ccd cl).scope.kind == .module && (envX cn cs L a ccd cl).locals != (envX cn cs L a ccd cl).globals)) = false)
    (J : Nat → (Str → Option Value) → Led → Prop) (hside : ∀ i m₁ news₁ h, J i m₁ news₁ → News g L h news₁ → side h)
    (F : Fr g L s.heap m) (N : News g L s.heap ((I, ob 0) :: news)) (hap : ∀ q ∈ news, q.1 ≠ I) (hG : AllBare s.gens) (h0 : J 0 m news)
    (turn : ∀ (i : Nat) (v : Value) (m₁ : Str → Option Value) (news₁ : Led) (h : Heap) (tk : Nat) (gn : Array GenState), i < n → P i v → J i m₁ news₁ → (∀ q ∈ news₁, q.1 ≠ I) → Fr g L h (fun y => if y = x then some v else m₁ y) → News g L h ((I, ob (i + 1)) :: news₁) → AllBare gn →
      wpR (model prog w) A (execs body (envX cn cs L a ccd cl)) (fun f s₃ => match f with
        | .next | .cont => ∃ m₂ news₂, J (i + 1) m₂ news₂ ∧ (∀ q ∈ news₂, q.1 ≠ I) ∧ Fr g L s₃.heap m₂ ∧ News g L s₃.heap ((I, ob (i + 1)) :: news₂) ∧ AllBare s₃.gens ∧ s₃.drawn = s.drawn ∧ s₃.os = s.os
        | .brk => R (.ok .next) s₃
        | .ret v => R (.ok (.ret v)) s₃) (notedBy (model prog w) A (envX cn cs L a ccd cl) fun e s' => R (.error e) s') ⟨h, gn, s.drawn, tk, s.os⟩)
    (done : ∀ m' news' h' tk gn, J n m' news' → Fr g L h' m' → News g L h' news' → AllBare gn → R (.ok .next) ⟨h', gn, s.drawn, tk, s.os⟩) :
    codeR (model prog w) A (.forLoop (.Name x px) (.ref I) body [] (envX cn cs L a ccd cl)) R s := by
  refine codeR_forLoop (fun k s₁ => ∃ i m₁ news₁, k = n - i ∧ i ≤ n ∧ J i m₁ news₁ ∧ (∀ q ∈ news₁, q.1 ≠ I) ∧ Fr g L s₁.heap m₁ ∧ News g L s₁.heap ((I, ob i) :: news₁) ∧ AllBare s₁.gens ∧ s₁.drawn = s.drawn ∧ s₁.os = s.os) ?_ n ⟨0, m, news, rfl, Nat.zero_le _, h0, hap, F, N, hG, rfl, rfl⟩
  rintro k s₁ ⟨i, m₁, news₁, rfl, hi, hJ, hap₁, F₁, N₁, hG₁, hd₁, ho₁⟩
  obtain ⟨h₁, gn, dr, tk, os⟩ := s₁
  have hI := N₁ (I, ob i) (.head _)
  have Nt : News g L h₁ news₁ := fun q hq => N₁ q (.tail _ hq)
  have hsd := hside i m₁ news₁ h₁ hJ Nt
  dsimp only at hd₁ ho₁
  subst hd₁; subst ho₁
  rcases Nat.lt_or_ge i n with hlt | hge
  · refine S.item i _ _ _ hlt hI.1 hsd fun v h' tk' hP ho' hs' => ?_
    dsimp only
    have hLI : I ≠ L := hI.2.1
    have F' : Fr g L h' m₁ := F₁.change hs' hLI hI.2.2
    have N' : News g L h' ((I, ob (i + 1)) :: news₁) := fun q hq => by
      rcases List.mem_cons.mp hq with rfl | hq
      · exact ⟨ho', hI.2⟩
      · exact ⟨(hs'.2 _ (hap₁ q hq)).trans (Nt q hq).1, (Nt q hq).2⟩
    refine wpAny_of_eq (a := ()) (by rfl) ?_
    refine wpAny_assign_Name (wpAny_storeName_local hx F'.ns (fun h₂ hn₂ hs₂ => ?_) hp)
    have F₂ : Fr g L h₂ (fun y => if y = x then some v else m₁ y) := F'.set hn₂ hs₂
    have N₂ : News g L h₂ ((I, ob (i + 1)) :: news₁) := fun q hq => ⟨(hs₂.2 _ (N' q hq).2.1).trans (N' q hq).1, (N' q hq).2⟩
    refine wpR_mono (turn i v m₁ news₁ h₂ _ gn hlt hP hJ hap₁ F₂ N₂ hG₁) (fun f s₃ hf => ?_) fun _ _ z => z
    cases f with
    | next => obtain ⟨m₂, news₂, r⟩ := hf; exact ⟨n - (i + 1), by omega, i + 1, m₂, news₂, rfl, hlt, r⟩
    | cont => obtain ⟨m₂, news₂, r⟩ := hf; exact ⟨n - (i + 1), by omega, i + 1, m₂, news₂, rfl, hlt, r⟩
    | brk => exact hf
    | ret v => exact hf
  · have e : i = n := Nat.le_antisymm hi hge
    subst e
    refine S.done _ _ _ hI.1 hsd fun h' tk' he' => ?_
    have F' : Fr g L h' m₁ := fr_but (ex := [I]) F₁ (fun b o hb eb => he' b o (fun q => hb (List.mem_singleton.mpr q)) eb) (fun b hb => by rw [List.mem_singleton.mp hb]; exact ⟨hI.2.2, hI.2.1⟩)
    have N' : News g L h' news₁ := fun q hq => ⟨he' _ _ (hap₁ q hq) (Nt q hq).1, (Nt q hq).2⟩
    exact done m₁ news₁ h' tk' gn hJ F' N' hG₁
/-- what a turn must leave -/
def Turned (g : Heap) (L I : Addr) (o : Obj) (x : Str) (stored : List Str) (m₀ : Str → Option Value) (J : Led → Prop) (d : Drawn) (os : OsState) (s₃ : Shared) : Prop :=
  ∃ m₂ news₂, J news₂ ∧ (∀ y, y ≠ x → stored.contains y = false → m₂ y = m₀ y) ∧ (∀ q ∈ news₂, q.1 ≠ I) ∧ Fr g L s₃.heap m₂ ∧ News g L s₃.heap ((I, o) :: news₂) ∧ AllBare s₃.gens ∧ s₃.drawn = d ∧ s₃.os = os
/-- forR with the frame's names written out: those in `stored` (and the target) change, the others stay -/
theorem forS {I : Addr} {n : Nat} {ob : Nat → Obj} {side : Heap → Prop} {P : Nat → Value → Prop} {m₀ : Str → Option Value} {news : Led} (stored : List Str) (S : Steps prog w A I n ob side P)
    (hx : (envX cn cs L a ccd cl).kindOf x = some .local) (hp : ((envX cn cs L a ccd cl).scope.kind == .class || ((envX cn cs L a ccd cl).scope.kind == .module && (envX cn cs L a ccd cl).locals != (envX cn cs L a ccd cl).globals)) = false)
    (J : Nat → Led → Prop) (hside : ∀ i news₁ h, J i news₁ → News g L h news₁ → side h)
    (F : Fr g L s.heap m₀) (N : News g L s.heap ((I, ob 0) :: news)) (hap : ∀ q ∈ news, q.1 ≠ I) (hG : AllBare s.gens) (h0 : J 0 news)
    (turn : ∀ (i : Nat) (v : Value) (u : Str → Option Value) (news₁ : Led) (h : Heap) (tk : Nat) (gn : Array GenState), i < n → P i v → J i news₁ → (∀ q ∈ news₁, q.1 ≠ I) → Fr g L h (fun y => if y = x then some v else if stored.contains y then u y else m₀ y) → News g L h ((I, ob (i + 1)) :: news₁) → AllBare gn →
      wpR (model prog w) A (execs body (envX cn cs L a ccd cl)) (fun f s₃ => match f with
        | .next | .cont => Turned g L I (ob (i + 1)) x stored m₀ (J (i + 1)) s.drawn s.os s₃
        | .brk => R (.ok .next) s₃
        | .ret v => R (.ok (.ret v)) s₃) (notedBy (model prog w) A (envX cn cs L a ccd cl) fun e s' => R (.error e) s') ⟨h, gn, s.drawn, tk, s.os⟩)
    (done : ∀ (u : Str → Option Value) news' h' tk gn, J n news' → Fr g L h' (fun y => if y = x then u y else if stored.contains y then u y else m₀ y) → News g L h' news' → AllBare gn → R (.ok .next) ⟨h', gn, s.drawn, tk, s.os⟩) :
    codeR (model prog w) A (.forLoop (.Name x px) (.ref I) body [] (envX cn cs L a ccd cl)) R s := by
  have form : ∀ m₁ : Str → Option Value, (∀ y, y ≠ x → stored.contains y = false → m₁ y = m₀ y) → m₁ = fun y => if y = x then m₁ y else if stored.contains y then m₁ y else m₀ y := fun m₁ hm => by
    funext y
    by_cases h1 : y = x
    · rw [if_pos h1]
    · rw [if_neg h1]
      cases h2 : stored.contains y with
      | true => simp
      | false => simp only [Bool.false_eq_true, if_false]; exact hm y h1 h2
  refine forR S trivial hx hp (fun i m₁ news₁ => J i news₁ ∧ ∀ y, y ≠ x → stored.contains y = false → m₁ y = m₀ y) (fun i m₁ news₁ h hJ hN => hside i news₁ h hJ.1 hN) F N hap hG ⟨h0, fun _ _ _ => rfl⟩ (fun i v m₁ news₁ h tk gn hi hP hJ hap₁ F₁ N₁ hG₁ => ?_) fun m' news' h' tk gn hJ F' N' hG' => ?_
  · have e : (fun y => if y = x then some v else m₁ y) = fun y => if y = x then some v else if stored.contains y then m₁ y else m₀ y := by
      funext y
      by_cases h1 : y = x
      · simp [h1]
      · simp only [if_neg h1]
        cases h2 : stored.contains y with
        | true => simp
        | false => simp only [Bool.false_eq_true, if_false]; exact hJ.2 y h1 h2
    rw [e] at F₁
    refine wpR_mono (turn i v m₁ news₁ h tk gn hi hP hJ.1 hap₁ F₁ N₁ hG₁) (fun f s₃ hf => ?_) fun _ _ z => z
    cases f with
    | next => obtain ⟨m₂, news₂, hJ₂, hm₂, r⟩ := hf; exact ⟨m₂, news₂, ⟨hJ₂, hm₂⟩, r⟩
    | cont => obtain ⟨m₂, news₂, hJ₂, hm₂, r⟩ := hf; exact ⟨m₂, news₂, ⟨hJ₂, hm₂⟩, r⟩
    | brk => exact hf
    | ret v => exact hf
  · rw [form m' hJ.2] at F'
    exact done m' news' h' tk gn hJ.1 F' N' hG'
end
end
end Own
end
section
open PySem PySem.W PyProof.Rows PySem.Calls PySem.Spec Builtin
namespace Own
section
variable {prog : Program} {w : World} {A : Around} {E : Value → Shared → Prop} {s : Shared} {g : Heap} {L D : Addr} {news : Led} {its : Array Value} {c : Nat}
theorem isList_of (h : s.heap.get? D = some (listOf its c)) : s.heap.IsList D its := ⟨_, h, rfl, _, rfl⟩
theorem truthy_listN {Q : Bool → Shared → Prop} (N : News g L s.heap news) (m : (D, listOf its c) ∈ news) (hsz : its.size < 1000000) (h : ∀ tk, Q (!its.isEmpty) { s with toks := tk }) : wpAny (model prog w) A (truthy (.ref D)) Q E s :=
  wpAny_truthy_list (isList_of (N _ m).1) (by omega) (h _)
theorem truthy_listN1 {Q : Bool → Shared → Prop} (N : News g L s.heap news) (m : (D, listOf its c) ∈ news) (hp : 0 < its.size) (hsz : its.size < 1000000) (h : ∀ tk, Q true { s with toks := tk }) : wpAny (model prog w) A (truthy (.ref D)) Q E s :=
  truthy_listN N m hsz fun tk => by
    have : (!its.isEmpty) = true := by simp only [Array.isEmpty, Bool.not_eq_true', decide_eq_false_iff_not]; omega
    rw [this]; exact h tk
theorem last_listO {value slice : PySem.Expr} {u : Tok} {v : Value} {Q : Value → Shared → Prop} (N : News g L s.heap news) (m : (D, listOf its c) ∈ news) (hv : its[its.size - 1]? = some v) (h : Q v s)
    (hs : subscripted slice false (.ref D) (.int (-1) u) = operate [.ref D, .int (-1) u] (getItem (.ref D) (.int (-1) u)) := by with_unfolding_all rfl) : wpAny (model prog w) A (subscriptTail value slice (.ref D) (.int (-1) u)) Q E s := by
  have hp : 0 < its.size := by
    rcases Nat.eq_zero_or_pos its.size with e | e
    · rw [Array.getElem?_eq_none (by omega)] at hv; cases hv
    · exact e
  exact tail_any (isList_of (N _ m).1).typeIs slot_list_getitem.lookup (wpAny_getItem_list_neg (isList_of (N _ m).1) (by decide) (by omega) (by decide) (by rw [show (-1 + ((its.size : Nat) : Int)).toNat = its.size - 1 by omega]; exact hv) h) hs
theorem len_listN {Q : Value → Shared → Prop} (N : News g L s.heap news) (m : (D, listOf its c) ∈ news) (hsz : its.size < 1000000) (h : ∀ t tk, Q (.int its.size t) { s with toks := tk }) : wpAny (model prog w) A (call (.builtin "len") [.ref D]) Q E s :=
  call_len_list (isList_of (N _ m).1) (by omega) (h _ _)
theorem last_listN {value slice : PySem.Expr} {u : Tok} {v : Value} {Q : Value → Shared → Prop} (N : News g L s.heap news) (m : (D, listOf (its.push v) c) ∈ news) (h : Q v s)
    (hs : subscripted slice false (.ref D) (.int (-1) u) = operate [.ref D, .int (-1) u] (getItem (.ref D) (.int (-1) u)) := by with_unfolding_all rfl) : wpAny (model prog w) A (subscriptTail value slice (.ref D) (.int (-1) u)) Q E s :=
  tail_any (isList_of (N _ m).1).typeIs slot_list_getitem.lookup (wpAny_getItem_list_neg (isList_of (N _ m).1) (by decide) (by rw [Array.size_push]; omega) (by decide) (by rw [Array.size_push, show (-1 + ((its.size + 1 : Nat) : Int)).toNat = its.size by omega]; simp) h) hs
theorem item_listN {value slice : PySem.Expr} {k : Int} {u : Tok} {v : Value} {Q : Value → Shared → Prop} (N : News g L s.heap news) (m : (D, listOf its c) ∈ news) (h0 : 0 ≤ k) (hk : k < 1000000) (hv : its[k.toNat]? = some v) (h : Q v s)
    (hs : subscripted slice false (.ref D) (.int k u) = operate [.ref D, .int k u] (getItem (.ref D) (.int k u)) := by with_unfolding_all rfl) : wpAny (model prog w) A (subscriptTail value slice (.ref D) (.int k u)) Q E s :=
  tail_any (isList_of (N _ m).1).typeIs slot_list_getitem.lookup (wpAny_getItem_list (isList_of (N _ m).1) h0 (by omega) hv h) hs
theorem pyNext_listX {it : Addr} {i : Nat} {x : Value} {Q : Option Value → Shared → Prop} (hit : s.heap.get? it = some (liObj D i)) (hl : s.heap.get? D = some (listOf its c)) (hx : its[i]? = some x)
    (hQ : ∀ h', h'.get? it = some (liObj D (i + 1)) → Heap.SameBut it s.heap h' → Q (some x) { s with heap := h' }) : wpAny (model prog w) A (pyNext (.ref it)) Q E s := by
  have hd : (liObj D i).data = .fields #[.ref D, .int i 0] := rfl
  have hT : s.TypeIs (.ref it) "list_iterator" := ⟨_, hit, rfl⟩
  unfold pyNext
  refine wpAny_bind (wpAny_attempt (wpAny_callSpecial?_slot (name := PySem.Str.ofString "__next__") hT slot_listiter_next
    (wpAny_call_entry slot_listiter_next hT entry_listiter_next ?_ (args_listiter_next _))))
  show wpAny _ _ (field (.ref it) 0 >>= _) _ _ s
  refine wpAny_bind (wpAny_field hit hd (x := .ref D) rfl ?_)
  show wpAny _ _ (if (Value.ref D == Value.none) = true then _ else _) _ _ s
  rw [if_neg (show ¬ ((Value.ref D == Value.none) = true) from Bool.false_ne_true)]
  show wpAny _ _ (field (.ref it) 1 >>= _) _ _ s
  refine wpAny_bind (wpAny_field hit hd (x := .int i 0) rfl ?_)
  refine wpAny_bind (m := seqItems? (.ref D)) (wpAny_seqItems hl rfl ?_)
  simp only [Int.toNat_natCast, hx]
  refine wpAny_bind (wpAny_setField hit hd (by simp) (wpAny_pure ⟨x, rfl, wpAny_pure (hQ _ ?_ (Heap.SameBut.update ..))⟩))
  have := Heap.get?_update_self (fun o => Obj.mapFields (fun vs => vs.setIfInBounds 1 (rawInt ((i : Int) + 1))) o) hit (Obj.isFreed_of_fields (Obj.data_mapFields hd _))
  first | exact this | (rw [this]; simp [Obj.mapFields, rawInt])
theorem Steps.list (hh : A.handled = none) (I D : Addr) (its : Array Value) (c : Nat) : Steps prog w A I its.size (fun i => liObj D i) (fun h => h.get? D = some (listOf its c)) (fun i v => its[i]? = some v) where
  item := fun i s Q E hi ho hs hQ => pyNext_listX ho hs (x := its[i]) (by simp [hi]) fun h' h1 h2 => hQ _ h' _ (by simp [hi]) h1 h2
  done := fun s Q E ho hs hQ => wpAny_pyNext_list_end hh ⟨_, ho, rfl, rfl⟩ ⟨_, hs, rfl, _, rfl⟩ (by simp) fun h' he => hQ h' s.toks he
end
end Own
namespace Own
section
variable {prog : Program} {w : World} {A : Around} {E : Value → Shared → Prop} {s : Shared} {g : Heap} {L D : Addr} {news : Led} {ws : List Value} {ns : List Int} {c : Nat}
theorem len_intsN {Q : Value → Shared → Prop} (N : News g L s.heap news) (m : (D, listOf ws.toArray c) ∈ news) (hI : IntsAre ws ns) (hsz : ns.length < 1000000) (h : ∀ t tk, Q (.int ns.length t) { s with toks := tk }) : wpAny (model prog w) A (call (.builtin "len") [.ref D]) Q E s :=
  len_listN N m (by rw [List.size_toArray, hI.length]; exact hsz) fun t tk => by
    have : ws.toArray.size = ns.length := by rw [List.size_toArray, hI.length]
    rw [this]; exact h t tk
theorem item_intsN {value slice : PySem.Expr} {k : Int} {u : Tok} {Q : Value → Shared → Prop} (N : News g L s.heap news) (m : (D, listOf ws.toArray c) ∈ news) (hI : IntsAre ws ns) (h0 : 0 ≤ k) (hk : k < ns.length) (hsz : ns.length < 1000000) (h : ∀ t, Q (.int (ns.getD k.toNat 0) t) s)
    (hs : subscripted slice false (.ref D) (.int k u) = operate [.ref D, .int k u] (getItem (.ref D) (.int k u)) := by with_unfolding_all rfl) : wpAny (model prog w) A (subscriptTail value slice (.ref D) (.int k u)) Q E s :=
  item_anyK (isList_of (N _ m).1) hI h0 hk (by omega) h hs
end
end Own
end
section
open PySem PySem.W PyProof.Rows PySem.Calls PySem.Spec Builtin
namespace Own
section
variable {prog : Program} {w : World} {A : Around} {E : Value → Shared → Prop} {s : Shared} {g : Heap} {L D B : Addr} {m : PySem.Str → Option Value} {news : Led} {news' : Nat → Led} {ys zs : List Value} {c c2 : Nat}
theorem seq_iadd : seqSlot? (.type "list") (dunderI "add") = pure (some (.builtin "list.__iadd__")) := by
  unfold seqSlot?
  rw [PySem.F.slot_list_iadd.lookup]
  rfl
theorem fill_iadd : fillsInplaceSlot (.type "list") "add" (Operator.Add == .Add) = pure false := by
  unfold fillsInplaceSlot
  show (typeLookup (.type "list") (dunderI "add") >>= fun fi => pure (fi.isSome && !isSeqSlot fi)) = pure false
  rw [PySem.F.slot_list_iadd.lookup]
  rfl
/-- a list made longer in place by another -/
theorem iadd_listN {Q : Value → Shared → Prop} (F : Fr g L s.heap m) (N : News g L s.heap news) (hB : (B, listOf zs.toArray c2) ∈ news)
    (U : ∀ c', Upd D (listOf ys.toArray c) (listOf (ys ++ zs).toArray c') news (news' c')) (hsz : ys.length + zs.length < 1000000)
    (h : ∀ h' c', Fr g L h' m → News g L h' (news' c') → Q (.ref D) { s with heap := h' }) : wpAny (model prog w) A (inplaceOp .Add (.ref D) (.ref B)) Q E s := by
  have hD : (D, listOf ys.toArray c) ∈ news := by
    obtain ⟨pre, post, e, _⟩ := (U 0).split
    rw [e]; exact List.mem_append_right _ (.head _)
  have h1 := N _ hD
  have h2 := N _ hB
  have hz : ys.toArray.size + zs.toArray.size ≤ sizeLine := by rw [sizeLine_eq]; simp only [List.size_toArray]; omega
  have tD : s.TypeIs (.ref D) "list" := ⟨_, h1.1, rfl⟩
  have tB : s.TypeIs (.ref B) "list" := ⟨_, h2.1, rfl⟩
  unfold inplaceOp
  refine wpAny_holding ?_
  refine wpAny_bind (wpAny_typeOf tD (wpAny_bind (wpAny_of_eq fill_iadd ?_)))
  show wpAny _ A (if false = true then _ else _) Q E s
  rw [if_neg Bool.false_ne_true]
  refine wpAny_bind (wpAny_binaryOp1_none (nm := "add") tD tB noFill_list_add ?_)
  refine wpAny_bind (wpAny_of_eq seq_iadd ?_)
  refine wpAny_bind (wpAny_rule ?_)
  refine call_meets PySem.F.slot_list_iadd tD PySem.F.entry_list_iadd (PySem.F.args_list_iadd_2 _ _) (AutoSeq1.list___iadd___list_list_0 D ys.toArray c B zs.toArray c2 (extend_door hz) (Nat.le_trans (Nat.le_add_right _ _) hz)) ⟨h1.1, h2.1, ?_⟩
  have e : ys.toArray ++ zs.toArray = (ys ++ zs).toArray := by simp
  have ho' : (s.heap.update D (Obj.mapSeq fun x => x ++ zs.toArray)).get? D = some (listOf (ys ++ zs).toArray (if (ys.toArray ++ zs.toArray).size == ys.toArray.size then c else c + 1)) := by
    rw [Heap.get?_update_self _ h1.1 (by rw [mapSeq_app]; rfl), mapSeq_app, e]
  exact h _ _ (F.change (Heap.SameBut.update ..) h1.2.1 h1.2.2) (news_upd N (U _) (Heap.SameBut.update ..) ho')
/-- one place of a list set -/
theorem set_listN {k : Int} {t : Tok} {v : Value} {nw : Led} {Q : Unit → Shared → Prop} (F : Fr g L s.heap m) (N : News g L s.heap news) (h0 : 0 ≤ k) (hk : k < ys.length) (U : Upd D (listOf ys.toArray c) (listOf (ys.set k.toNat v).toArray c) news nw) (hsz : ys.length < 1000000)
    (h : ∀ h', Fr g L h' m → News g L h' nw → Q () { s with heap := h' }) : wpAny (model prog w) A (setItem (.ref D) (.int k t) v) Q E s := by
  refine ki_set F N h0 (by omega) (q := ys.set k.toNat v) ?_ U h
  have : ∀ (l : List Value) (j : Nat), j < l.length → ki_setL l j v = some (l.set j v) := by
    intro l
    induction l with
    | nil => intro j hj; exact absurd hj (Nat.not_lt_zero _)
    | cons x l ih =>
      intro j hj
      cases j with
      | zero => rfl
      | succ j => unfold ki_setL; rw [ih j (by simpa using hj)]; rfl
  exact this _ _ (by simp; omega)
end
end Own
end
section
open PySem PySem.W PyProof.Rows PySem.Calls PySem.Spec Builtin
namespace Own
section
variable {prog : Program} {w : World} {A : Around} {E : Value → Shared → Prop} {s : Shared} {b : Array UInt8} {t : Tok}
abbrev biObj (b : Array UInt8) (t : Tok) (i : Nat) : Obj := { cls := .type "bytes_iterator", data := .fields #[.bytes b t, .int i 0] }
theorem iter_bytes {Q : Value → Shared → Prop} (h : Q (.ref s.heap.objs.size) { s with heap := s.heap.push (biObj b t 0) }) : wpAny (model prog w) A (call (.builtin "iter") [.bytes b t]) Q E s := by
  refine call_function_entry (by decide +kernel) (by decide +kernel) kdk_entry_iter (kdk_args_iter _) ?_
  unfold Builtin.«iter»
  refine wpAny_bind (m := someArgs "iter" 1 2 _) (wpAny_of_eq (a := [Value.bytes b t]) (by first | rfl | kernel_rfl!) ?_)
  show wpAny _ _ (pyIter (.bytes b t) >>= _) _ _ _
  refine wpAny_bind (KBw.pyIter_bytes ?_)
  exact wpAny_pure ⟨_, rfl, h⟩
theorem next_bytes {it : Addr} {i : Nat} {c : UInt8} {Q : Value → Shared → Prop} (hit : s.heap.get? it = some (biObj b t i)) (hx : b[i]? = some c)
    (hQ : ∀ h' tk, h'.get? it = some (biObj b t (i + 1)) → Heap.SameBut it s.heap h' → Q (.int (c.toNat : Int) s.toks) { s with heap := h', toks := tk }) : wpAny (model prog w) A (call (.builtin "next") [.ref it]) Q E s := by
  have hd : (biObj b t i).data = .fields #[.bytes b t, .int i 0] := rfl
  have hT : s.TypeIs (.ref it) "bytes_iterator" := ⟨_, hit, rfl⟩
  refine call_function_entry (by decide +kernel) (by decide +kernel) kdk_entry_next (kdk_args_next _) ?_
  unfold Builtin.«next»
  refine wpAny_bind (m := someArgs "next" 1 2 _) (wpAny_of_eq (a := [Value.ref it]) (by first | rfl | kernel_rfl!) ?_)
  dsimp only
  refine wpAny_bind (wpAny_specialOf (name := Str.ofString "__next__") hT KBw.slot_next.lookup ?_)
  refine wpAny_ite_split (fun hab => absurd hab (by decide)) (fun _ => ?_)
  refine wpAny_bind (wpAny_callSpecial?_slot (name := PySem.Str.ofString "__next__") hT KBw.slot_next
    (wpAny_call_entry KBw.slot_next hT KBw.entry_next ?_ (KBw.args_next _)))
  show wpAny _ _ (field (.ref it) 0 >>= _) _ _ s
  refine wpAny_bind (wpAny_field hit hd (x := .bytes b t) rfl ?_)
  show wpAny _ _ (if (Value.bytes b t == Value.none) = true then _ else _) _ _ s
  rw [if_neg (show ¬ ((Value.bytes b t == Value.none) = true) from Bool.false_ne_true)]
  show wpAny _ _ (field (.ref it) 1 >>= _) _ _ s
  refine wpAny_bind (wpAny_field hit hd (x := .int i 0) rfl ?_)
  refine wpAny_bind (wpAny_of_eq (a := b) rfl ?_)
  simp only [Int.toNat_natCast, hx]
  refine wpAny_bind (wpAny_setField hit hd (by simp) (wpAny_bind (wpAny_mkInt (wpAny_pure ⟨_, rfl, wpAny_pure ⟨_, rfl, hQ _ _ ?_ (Heap.SameBut.update ..)⟩⟩))))
  have := Heap.get?_update_self (fun o => Obj.mapFields (fun vs => vs.setIfInBounds 1 (rawInt ((i : Int) + 1))) o) hit (Obj.isFreed_of_fields (Obj.data_mapFields hd _))
  first | exact this | (rw [this]; simp [Obj.mapFields, biObj, rawInt]) | skip

theorem iter_bytesN {g : Heap} {L : Addr} {m : Str → Option Value} {news : Led} {Q : Value → Shared → Prop} (F : Fr g L s.heap m) (N : News g L s.heap news)
    (h : ∀ I h', Fr g L h' m → News g L h' ((I, biObj b t 0) :: news) → (∀ q ∈ news, q.1 < I) → Q (.ref I) { s with heap := h' }) : wpAny (model prog w) A (call (.builtin "iter") [.bytes b t]) Q E s :=
  iter_bytes (h _ _ (keep_fr F fun b o e => Heap.get?_push_of_some _ e) (news_fresh F N (fun b o e => Heap.get?_push_of_some _ e) (Heap.get?_push_size _ rfl)) fun q hq => Heap.lt_size (N q hq).1)
theorem next_bytesN {g : Heap} {L it : Addr} {m : Str → Option Value} {news news' : Led} {i : Nat} {c : UInt8} {Q : Value → Shared → Prop} (F : Fr g L s.heap m) (N : News g L s.heap news) (U : Upd it (biObj b t i) (biObj b t (i + 1)) news news') (hx : b[i]? = some c)
    (h : ∀ h' u tk, Fr g L h' m → News g L h' news' → Q (.int (c.toNat : Int) u) { s with heap := h', toks := tk }) : wpAny (model prog w) A (call (.builtin "next") [.ref it]) Q E s := by
  have hm : (it, biObj b t i) ∈ news := by
    obtain ⟨pre, post, e, _⟩ := U.split
    rw [e]; exact List.mem_append_right _ (.head _)
  exact next_bytes (N _ hm).1 hx fun h' tk ho hs => h h' _ tk (F.change hs (N _ hm).2.1 (N _ hm).2.2) (news_upd N U hs ho)
end
end Own
end
section
open PySem PySem.W PyProof.Rows PySem.Calls PySem.Spec Builtin
namespace Own
section
variable {prog : Program} {w : World} {A : Around} {E : Value → Shared → Prop} {s : Shared} {b : Array UInt8} {t : Tok}
theorem pyNext_bytes {it : Addr} {i : Nat} {c : UInt8} {Q : Option Value → Shared → Prop} (hit : s.heap.get? it = some (biObj b t i)) (hx : b[i]? = some c)
    (hQ : ∀ h' tk, h'.get? it = some (biObj b t (i + 1)) → Heap.SameBut it s.heap h' → Q (some (.int (c.toNat : Int) s.toks)) { s with heap := h', toks := tk }) : wpAny (model prog w) A (pyNext (.ref it)) Q E s := by
  have hd : (biObj b t i).data = .fields #[.bytes b t, .int i 0] := rfl
  have hT : s.TypeIs (.ref it) "bytes_iterator" := ⟨_, hit, rfl⟩
  unfold pyNext
  refine wpAny_bind (wpAny_attempt (wpAny_callSpecial?_slot (name := PySem.Str.ofString "__next__") hT KBw.slot_next
    (wpAny_call_entry KBw.slot_next hT KBw.entry_next ?_ (KBw.args_next _))))
  show wpAny _ _ (field (.ref it) 0 >>= _) _ _ s
  refine wpAny_bind (wpAny_field hit hd (x := .bytes b t) rfl ?_)
  show wpAny _ _ (if (Value.bytes b t == Value.none) = true then _ else _) _ _ s
  rw [if_neg (show ¬ ((Value.bytes b t == Value.none) = true) from Bool.false_ne_true)]
  show wpAny _ _ (field (.ref it) 1 >>= _) _ _ s
  refine wpAny_bind (wpAny_field hit hd (x := .int i 0) rfl ?_)
  refine wpAny_bind (wpAny_of_eq (a := b) rfl ?_)
  simp only [Int.toNat_natCast, hx]
  refine wpAny_bind (wpAny_setField hit hd (by simp) (wpAny_bind (wpAny_mkInt (wpAny_pure ⟨_, rfl, wpAny_pure (hQ _ _ ?_ (Heap.SameBut.update ..))⟩))))
  have := Heap.get?_update_self (fun o => Obj.mapFields (fun vs => vs.setIfInBounds 1 (rawInt ((i : Int) + 1))) o) hit (Obj.isFreed_of_fields (Obj.data_mapFields hd _))
  first | exact this | (rw [this]; simp [Obj.mapFields, biObj, rawInt])
theorem Steps.bytes (hh : A.handled = none) (I : Addr) (b : Array UInt8) (t : Tok) : Steps prog w A I b.size (fun i => biObj b t i) (fun _ => True) (fun i v => ∃ c u, b[i]? = some c ∧ v = .int (c.toNat : Int) u) where
  item := fun i s Q E hi ho _ hQ => pyNext_bytes ho (c := b[i]) (by simp [hi]) fun h' tk h1 h2 => hQ _ h' tk ⟨_, _, by simp [hi], rfl⟩ h1 h2
  done := fun s Q E ho _ hQ => KBw.next_end hh ⟨_, ho, rfl, rfl⟩ (by simp) fun h' he => hQ h' s.toks he
end
end Own
end
section
open PySem PySem.W PyProof.Rows PySem.Calls PySem.Spec Builtin
namespace Own.FX
theorem slot_isdigit : Slot "bytes" "isdigit" "bytes.isdigit" :=
  .of (owner := "bytes") (n := "isdigit") (by rw [typeLookup_type, builtinLookup_eq_fast]; kernel_rfl) (by decide +kernel) (by decide +kernel) (by decide +kernel)
    (by first | exact .inl (by decide +kernel) | exact .inr (by decide +kernel)) (by rw [isSubtype_type]; kernel_rfl)
theorem type_isdigit : typeOf (.builtin "bytes.isdigit") = pure (.type "method_descriptor") := by kernel_rfl
theorem entry_isdigit : entryFor table "bytes.isdigit" = some Builtin.«bytes.isdigit» := by first | exact entryFor_of_tree (by kernel_rfl) | exact entryFor_of_fast (by kernel_rfl)
theorem args_isdigit (a : Value) : argsOk "bytes.isdigit" ⟨[a], []⟩ := by
  unfold argsOk; rw [signature?_of (id := "bytes.isdigit") (n := ['t', 'i', 'g', 'i', 'd', 's', 'i']) (o := ['s', 'e', 't', 'y', 'b']) (by kernel_rfl) FB.owner_bytes]; kernel_rfl
theorem b_buffer : typeLookup (.type "bytes") "__buffer__" = pure (some (.builtin "bytes.__buffer__")) := by rw [typeLookup_type, builtinLookup_eq_fast]; kernel_rfl
theorem b_release : typeLookup (.type "bytes") "__release_buffer__" = pure none := by rw [typeLookup_type, builtinLookup_eq_fast]; kernel_rfl
theorem sub_b_self : isSubtype (.type "bytes") (.type "bytes") = pure true := by rw [isSubtype_type]; kernel_rfl
theorem ends_bb : ("bytes.__buffer__" : String).endsWith ("." ++ "__buffer__") = true := by decide +kernel
theorem drop_bb : ("bytes.__buffer__" : String).dropRight ("__buffer__".length + 1) = "bytes" := by decide +kernel
end Own.FX
namespace Own
section
variable {prog : Program} {w : World} {A : Around} {E : Value → Shared → Prop} {s : Shared} {b : Array UInt8} {t : Tok}
theorem getMethod_isdigit {pl : Sem Bool} {Q : Value × List Value → Shared → Prop} (h : Q (.builtin "bytes.isdigit", [.bytes b t]) s) : wpAny (model prog w) A (getMethod (.bytes b t) "isdigit" pl) Q E s :=
  by with_reducible exact KBd.method_of (.bytes b t) (typeIs_bytes _ _ _) FX.slot_isdigit FX.type_isdigit KBd.noRef h
theorem call_isdigit {Q : Value → Shared → Prop} (h : Q (.bool (Bytes.allOf Bytes.isDigit b.toList)) s) : wpAny (model prog w) A (call (.builtin "bytes.isdigit") [.bytes b t]) Q E s := by
  refine wpAny_call_entry FX.slot_isdigit (typeIs_bytes _ _ _) FX.entry_isdigit ?_ (FX.args_isdigit _)
  unfold Builtin.«bytes.isdigit» Bytes.testM
  refine wpAny_bind (wpAny_of_eq (a := .bytes b t) (by first | rfl | kernel_rfl) ?_)
  exact wpAny_bind (wpAny_of_eq (a := b) rfl (wpAny_pure ⟨_, rfl, h⟩))
theorem b_bufferOf {id : String} {full : Bool} {Q : Option (Array UInt8) → Shared → Prop} (h : Q (some b) s) : wpAny (model prog w) A (Bytes.buffer? id (.bytes b t) full) Q E s := by
  have hT : s.TypeIs (.bytes b t) "bytes" := typeIs_bytes _ _ _
  unfold Bytes.buffer?
  refine wpAny_bind (wpAny_specialOf hT FX.b_buffer ?_)
  dsimp only
  refine wpAny_bind ?_
  unfold Bytes.slotIsOwn
  refine wpAny_bind (wpAny_specialOf hT FX.b_buffer ?_)
  dsimp only
  rw [FX.ends_bb, FX.drop_bb]
  simp only [Bool.not_true, Bool.false_eq_true, if_false]
  refine wpAny_isInstance hT FX.sub_b_self ?_
  simp only [Bool.not_true, Bool.false_eq_true, if_false]
  refine wpAny_bind (wpAny_specialOf hT FX.b_buffer ?_)
  unfold Bytes.ownRelease Bytes.slotIsOwn
  refine wpAny_bind (wpAny_bind (wpAny_bind (wpAny_specialOf hT FX.b_release (wpAny_pure (wpAny_pure ?_)))))
  simp only [Bool.not_true, Bool.false_eq_true, if_false]
  exact wpAny_bind (wpAny_of_eq (a := b) rfl (wpAny_pure h))
theorem in_bytes {k : Int} {u : Tok} {Q : Value → Shared → Prop} (h0 : 0 ≤ k) (h1 : k < 256) (h : Q (.bool (b.contains k.toNat.toUInt8)) s) : wpAny (model prog w) A (compareOp .In (.int k u) (.bytes b t)) Q E s := by
  have hT : s.TypeIs (.bytes b t) "bytes" := typeIs_bytes _ _ _
  show wpAny _ _ (do return .bool (← contains (.bytes b t) (.int k u))) Q E s
  refine wpAny_bind ?_
  unfold contains
  try with_reducible refine wpAny_holding ?_
  refine wpAny_bind (wpAny_specialOf hT FB.slot_bytes_contains.lookup ?_)
  show wpAny _ _ (if (some (Value.builtin "bytes.__contains__") == some Value.none) = true then _ else _) _ E s
  rw [if_neg (by rw [beq_builtin_none]; exact Bool.false_ne_true)]
  refine wpAny_bind (wpAny_callSpecialUnlessNone?_slot (name := Str.ofString "__contains__") hT FB.slot_bytes_contains
    (wpAny_call_entry FB.slot_bytes_contains hT FB.entry_bytes_contains ?_ (FB.args_bytes_contains_2 _ _)))
  show wpAny _ _ (Bytes.containsIn "bytes.__contains__" (.bytes b t) (.int k u) >>= _) _ _ s
  refine wpAny_bind ?_
  unfold Bytes.containsIn
  refine wpAny_bind (wpAny_attempt (wpAny_of_eq (a := k) rfl ?_))
  refine wpAny_bind (b_bufferOf ?_)
  dsimp only
  rw [if_neg (by simp only [Bool.or_eq_true, decide_eq_true_eq]; omega)]
  refine wpAny_pure (wpAny_pure ⟨_, rfl, ?_⟩)
  exact wpAny_pure (wpAny_pure h)
end
end Own
end
section
open PySem PySem.W PyProof.Rows PySem.Calls PySem.Spec Builtin
namespace Own
/-- a whole number, nothing else touched -/
def IntAt (c : Int) (h : Heap) (gn : Array GenState) (d : Drawn) (os : OsState) (v : Value) (s' : Shared) : Prop := ∃ t tk, v = .int c t ∧ s' = ⟨h, gn, d, tk, os⟩
section
variable {prog : Program} {w : World} {A : Around} {E : Value → Shared → Prop} {s : Shared} {b : Array UInt8} {t ui : Tok} {value slice : Expr} {Q : Value → Shared → Prop}
theorem item_at {i : Int} (j : Nat) (e : i = (j : Int)) (hj : j < b.size) (hsz : b.size ≤ 1099511627776)
    (h : ∀ t' k, Q (.int ((b.getD j 0).toNat : Int) t') { s with toks := k })
    (hs : subscripted slice false (.bytes b t) (.int i ui) = operate [.bytes b t, .int i ui] (getItem (.bytes b t) (.int i ui)) := by with_unfolding_all rfl)
    (ht : ∀ r, letTemporaryGo value (.bytes b t) r = pure () := by intro _; with_unfolding_all rfl) : wpAny (model prog w) A (subscriptTail value slice (.bytes b t) (.int i ui)) Q E s := by
  subst e
  refine KBw.item_K (ks := KBw.bInts b) rfl (by rw [KBw.ints_length]; exact hsz) (Int.natCast_nonneg _) (by rw [KBw.ints_length]; exact_mod_cast hj) (fun t' k _ _ => ?_) hs ht
  have : (KBw.bInts b).getD ((j : Int)).toNat 0 = ((b.getD j 0).toNat : Int) := by
    show (b.toList.map fun c => (c.toNat : Int)).getD ((j : Int)).toNat 0 = _
    rw [← KBw.getD_ints]
    simp [Array.getD_eq_getD_getElem?, List.getD_eq_getElem?_getD]
  rw [this]
  exact h _ _
end
end Own
end
section
open PySem PySem.W PyProof.Rows PySem.Calls PySem.Spec Builtin
namespace Own
namespace FX
theorem slot_b_repr : Slot "bytes" "__repr__" "bytes.__repr__" :=
  .of (owner := "bytes") (n := "__repr__") (by rw [typeLookup_type, builtinLookup_eq_fast]; kernel_rfl) (by decide +kernel) (by decide +kernel) (by decide +kernel)
    (by first | exact .inl (by decide +kernel) | exact .inr (by decide +kernel)) (by rw [isSubtype_type]; kernel_rfl)
theorem entry_b_repr : entryFor table "bytes.__repr__" = some Builtin.«bytes.__repr__» := by first | exact entryFor_of_tree (by kernel_rfl) | exact entryFor_of_fast (by kernel_rfl)
theorem args_b_repr (a : Value) : argsOk "bytes.__repr__" ⟨[a], []⟩ := by unfold argsOk; kernel_rfl
end FX
theorem lit_fold (f : UInt8 → Array Nat) (hf : ∀ c, (f c).size ≤ 4) (l : List UInt8) (acc : Array Nat) : (l.foldl (fun acc c => acc ++ f c) acc).size ≤ acc.size + 4 * l.length := by
  induction l generalizing acc with
  | nil => simp
  | cons c l ih =>
    rw [List.foldl_cons]
    refine Nat.le_trans (ih _) ?_
    have := hf c
    rw [Array.size_append, List.length_cons]; omega
theorem lit_len (b : Array UInt8) : (Bytes.literal b).length ≤ 4 * b.size + 3 := by
  unfold Bytes.literal
  dsimp only
  show (Array.push _ _).size ≤ _
  rw [Array.size_push, ← Array.foldl_toList]
  refine Nat.le_trans (Nat.succ_le_succ (lit_fold (fun c => _) ?_ b.toList _)) ?_
  · intro c
    repeat' split
    all_goals simp
  · simp; omega
theorem gives_b_repr (b : Array UInt8) (t : Tok) (h : 4 * b.size + 3 ≤ sizeLine) : Gives («bytes.__repr__» ⟨[.bytes b t], []⟩) (.str (Bytes.literal b)) := by
  have e : Bytes.literalAsked b = pure (Bytes.literal b) := by
    unfold Bytes.literalAsked
    have : Bytes.tooLong (4 * b.size + 3 + 0) = false := by simp [Bytes.tooLong]; omega
    rw [this]
    rfl
  refine .of_eq ?_
  show (Bytes.literalAsked b >>= fun x => retStr x) = _
  rw [e]
  rfl
section
variable {prog : Program} {w : World} {A : Around} {E : Value → Shared → Prop} {s : Shared} {b : Array UInt8} {t : Tok}
theorem repr_bytes {Q : Value → Shared → Prop} (hsz : b.size ≤ 16) (h : ∀ (x : Str) t' k, x.length ≤ 67 → Q (.str x t') { s with toks := k }) : wpAny (model prog w) A (pyReprObj (.bytes b t)) Q E s :=
  wpAny_pyReprObj_gives (typeIs_bytes _ _ _) FX.slot_b_repr FX.entry_b_repr (FX.args_b_repr _) (gives_b_repr b t (by rw [sizeLine_eq]; omega)) (h _ _ _ (Nat.le_trans (lit_len b) (by omega))) (by rfl) (Nat.le_trans (lit_len b) (by rw [sizeLine_eq]; omega))
end
end Own
end
section
open PySem PySem.W PyProof.Rows PySem.Calls PySem.Spec Builtin
namespace Own.FX
theorem slot_ba_init : Slot "bytearray" "__init__" "bytearray.__init__" :=
  .of (owner := "bytearray") (n := "__init__") (by rw [typeLookup_type, builtinLookup_eq_fast]; kernel_rfl) (by decide +kernel) (by decide +kernel) (by decide +kernel)
    (by first | exact .inl (by decide +kernel) | exact .inr (by decide +kernel)) (by rw [isSubtype_type]; kernel_rfl)
theorem mro_ba : mroOf (.type "bytearray") = pure [.type "bytearray", .type "object"] := by rw [mroOf_type]; kernel_rfl
theorem lookup_ba_new : typeLookup (.type "bytearray") "__new__" = pure (some (.builtin "bytearray.__new__")) := by rw [typeLookup_type, builtinLookup_eq_fast]; kernel_rfl
theorem sub_ba_self : isSubtype (.type "bytearray") (.type "bytearray") = pure true := by rw [isSubtype_type]; kernel_rfl
theorem called_ba : TypeCalled "bytearray" "bytearray.__new__" "bytearray.__init__" :=
  ⟨by decide +kernel, by decide +kernel, ⟨_, _, mro_ba⟩, madeBy_type mro_ba lookup_ba_new (by decide +kernel), by decide +kernel, sub_ba_self, slot_ba_init⟩
theorem typeCall_ba_1 (a : Value) : checkTypeCall "bytearray" ⟨[a], []⟩ = pure () := by kernel_rfl
theorem newCall_ba_1 (a : Value) : checkBuiltinCall "bytearray.__new__" ⟨[.type "bytearray", a], []⟩ = pure () := by kernel_rfl
theorem entry_ba_new : entryFor table "bytearray.__new__" = some Builtin.«list.__new__» := entryFor_alias (id' := "list.__new__") (by rw [fastTable_eq_tree]; kernel_rfl) (by decide +kernel) (by decide +kernel) (by rw [fastTable_eq_tree]; kernel_rfl)
theorem plain_ba_new : plainId "bytearray.__new__" = true := by decide +kernel
theorem entry_ba_init : entryFor table "bytearray.__init__" = some Builtin.«bytearray.__init__» := by first | exact entryFor_of_tree (by kernel_rfl) | exact entryFor_of_fast (by kernel_rfl)
theorem args_ba_init (a b : Value) : argsOk "bytearray.__init__" ⟨[a, b], []⟩ := by unfold argsOk; kernel_rfl
theorem owner_ba_new : ("bytearray.__new__".splitOn ".__new__").headD "" = "bytearray" := by simp +decide [String.splitOn, String.splitOnAux]
theorem ba_release : typeLookup (.type "bytearray") "__release_buffer__" = pure (some (.builtin "bytearray.__release_buffer__")) := by rw [typeLookup_type, builtinLookup_eq_fast]; kernel_rfl
theorem tup_index : typeLookup (.type "tuple") "__index__" = pure none := by rw [typeLookup_type, builtinLookup_eq_fast]; kernel_rfl
theorem tup_buffer : typeLookup (.type "tuple") "__buffer__" = pure none := by rw [typeLookup_type, builtinLookup_eq_fast]; kernel_rfl
theorem tup_str : isSubtype (.type "tuple") (.type "str") = pure false := by rw [isSubtype_type]; kernel_rfl
theorem ends_release : ("bytearray.__release_buffer__" : String).endsWith ("." ++ "__release_buffer__") = true := by decide +kernel
theorem drop_release : ("bytearray.__release_buffer__" : String).dropRight ("__release_buffer__".length + 1) = "bytearray" := by decide +kernel
theorem bind_ba (a : Value) : Bytes.bindOptional "bytearray.__init__" "bytearray" ["source", "encoding", "errors"] [a] [] = pure [some a, none, none] := by kernel_rfl
end Own.FX
namespace Own
section
variable {prog : Program} {w : World} {A : Around} {E : Value → Shared → Prop} {s : Shared}
theorem code_ba_new (a : Value) {Q₁ : Value → Shared → Prop} (h : Q₁ (.ref s.heap.objs.size) { s with heap := s.heap.push (baObj []) }) :
    codeAny (model prog w) A (.call (.builtin "bytearray.__new__") ⟨[.type "bytearray", a], []⟩) (wants Q₁ E) s := by
  refine codeAny_of_tree ?_
  show wpAny _ A.in1 (do checkBuiltinCall "bytearray.__new__" ⟨[.type "bytearray", a], []⟩; again (.builtin "bytearray.__new__" ⟨[.type "bytearray", a], []⟩)) _ _ s
  refine wpAny_bind (wpAny_of_eq (FX.newCall_ba_1 a) (wpAny_pure ⟨plainId_quiet FX.plain_ba_new _, codeAny_builtin_stack FX.entry_ba_new rfl fun p st => ?_⟩))
  rw [Around.under_plainId FX.plain_ba_new _]
  have hsub := FX.sub_ba_self
  have hown := FX.owner_ba_new
  obtain ⟨hp, g, d, tk, os⟩ := s
  simp only [hown]
  wp_walk
  exact h
theorem wpR_ba_init {d t : Addr} {Q : Fin → Shared → Prop} (ho : s.heap.get? d = some (baObj [])) (ht : IsTup s.heap t #[])
    (h : ∀ h', h'.get? d = some (baObj []) → Heap.SameBut d s.heap h' → Q (.done (.ret .none)) { s with heap := h' }) :
    wpR (model prog w) A (Builtin.«bytearray.__init__» ⟨[.ref d, .ref t], []⟩) Q E s := by
  have hT := ba_typeIs ho
  have hTt : s.TypeIs (.ref t) "tuple" := ht.typeIs
  unfold Builtin.«bytearray.__init__»
  dsimp only
  unfold Bytes.ownRelease Bytes.slotIsOwn
  refine wpR_bindA (wpAny_bind (wpAny_bind (wpAny_specialOf hT FX.ba_release ?_)))
  dsimp only
  rw [FX.ends_release, FX.drop_release]
  simp only [Bool.not_true, Bool.false_eq_true, if_false]
  refine wpAny_isInstance hT FX.sub_ba_self (wpAny_pure ?_)
  simp only [Bool.not_true, Bool.false_eq_true, if_false]
  refine wpR_bindA (wpAny_of_eq (FX.bind_ba (.ref t)) ?_)
  dsimp only
  refine wpR_bindA (wpAny_pure (wpR_bindA (wpAny_pure ?_)))
  refine wpR_bind (wpR_bind (wpR_exported ?_))
  show wpR _ _ (Bytes.exportsOf (.ref d) >>= fun n => pure (decide (n > 0))) _ _ _
  refine wpR_bindA ?_
  unfold Bytes.exportsOf
  refine wpAny_bind (wpAny_load ho (wpAny_pure (wpR_pure ?_)))
  refine wpR_iteF rfl ?_
  refine wpR_of (wpAny_bind (ba_write ho (bs' := []) (f := fun _ => #[]) rfl (Nat.zero_le _) fun h1 e1 hs1 => ?_))
  have htd : t ≠ d := fun e => by
    obtain ⟨o, hto, hc, _⟩ := ht
    rw [e, ho] at hto; cases hto; simp at hc
  have ht1 : IsTup h1 t #[] := ht.extBut (hs1.extBut) htd
  have hT1 : Shared.TypeIs ⟨h1, s.gens, s.drawn, s.toks, s.os⟩ (.ref t) "tuple" := ht1.typeIs
  obtain ⟨ot, hot, hoc, n, hod⟩ := id ht1
  refine wpAny_bind ?_
  unfold asStr?
  refine wpAny_bind (wpAny_load hot ?_)
  rw [hod]
  refine wpAny_pure ?_
  simp only [Option.isSome_none, Bool.false_eq_true, if_false]
  refine wpAny_bind (wpAny_pure (wpAny_bind (wpAny_specialOf hT1 FX.tup_index ?_)))
  simp only [Option.isSome_none, Bool.false_eq_true, if_false]
  refine wpAny_bind ?_
  unfold Bytes.buffer?
  refine wpAny_bind (wpAny_specialOf hT1 FX.tup_buffer ?_)
  dsimp only
  refine wpAny_bind (wpAny_specialOf hT1 FX.tup_buffer (wpAny_pure ?_))
  dsimp only
  refine wpAny_bind (wpAny_typeOf hT1 ?_)
  rw [if_pos (by decide)]
  refine wpAny_bind ?_
  unfold seqItems?
  refine wpAny_bind (wpAny_load hot ?_)
  rw [hod]
  refine wpAny_pure ?_
  simp only [List.takeWhile_nil, List.filterMap_nil, List.length_nil]
  refine wpAny_bind (wpAny_rule (wpAny_bind (ba_write (s := ⟨h1, s.gens, s.drawn, s.toks, s.os⟩) e1 (bs' := []) (f := fun _ => #[]) rfl (Nat.zero_le _) fun h2 e2 hs2 => wpAny_pure ?_)))
  exact h h2 e2 ⟨hs2.1.trans hs1.1, fun b hb => (hs2.2 b hb).trans (hs1.2 b hb)⟩
theorem codeR_builtin_under {id : String} {args : Args} {b : Builtin} {R : Result → Shared → Prop} (hb : entryFor table id = some b)
    (h : wpR (model prog w) (A.under (.builtin id args)) (b args) (fun fin s' => match fin with | .done f => R (.ok f) s' | .again c' => c'.quiet = true ∧ cleanCode c' = true ∧ codeR (model prog w) A c' R s') (fun e s' => R (.error e) s') s) :
    codeR (model prog w) A (.builtin id args) R s := by
  refine codeR_of_tree ?_
  show wpR _ _ (match entryFor table id with | some b => b args | none => unsupported ((withoutEnding? id "#data").getD id)) _ _ s
  rw [hb]; exact h
theorem wpR_call_bytearray {t : Addr} {Q : Value → Shared → Prop} (ht : IsTup s.heap t #[])
    (h : ∀ h', h'.get? s.heap.objs.size = some (baObj []) → (∀ b o, s.heap.get? b = some o → h'.get? b = some o) → Q (.ref s.heap.objs.size) { s with heap := h' }) :
    wpR (model prog w) A (call (.type "bytearray") [.ref t]) Q E s := by
  obtain ⟨c, tl, hmro⟩ := FX.called_ba.mro
  have hmade := FX.called_ba.made
  have hsub := FX.called_ba.sub
  have h1 := FX.called_ba.notType
  have h2 := FX.called_ba.canCreate
  have hct := FX.typeCall_ba_1 (.ref t)
  refine wpR_call (codeR_of_tree ?_)
  show wpR _ _ (callAny (.type "bytearray") _) _ _ _
  refine wpR_pure ⟨Code.quiet_builtin _ (by decide +kernel), rfl, codeR_builtin_under F.entry_type_call ?_⟩
  rw [Around.under_plain (weight_type_call_type "bytearray" [.ref t] []) (units_type_call_type "bytearray" [.ref t] [])]
  have e : Builtin.«type.__call__» ⟨[.type "bytearray", .ref t], []⟩ = (do
      let obj ← holding [.builtin "bytearray.__new__"] (call (.builtin "bytearray.__new__") [.type "bytearray", .ref t] [])
      if !(← isInstance obj (.type "bytearray")) then rule "type.call.new-gave-other-type"; return ← ret obj
      match ← holding [obj] (callSpecial? obj "__init__" [.ref t] []) with
      | none => ret obj
      | some r =>
        if r != .none then
          rule "type.call.init-returned-value"
          raiseError "TypeError" s!"__init__() should return None, not '{← typeNameOf r}'"
        ret obj) := by
    unfold Builtin.«type.__call__»
    dsimp only
    rw [h1]
    simp only [h2, hct, hmro, hmade, pure_bind, List.isEmpty_cons, Bool.false_eq_true, if_false]
    rfl
  rw [e]
  refine wpR_bindA (wpAny_holding (wpAny_call (codeAny_mono (code_ba_new (Q₁ := fun v s' => v = .ref s.heap.objs.size ∧ s' = { s with heap := s.heap.push (baObj []) }) (E := fun _ _ => False) (.ref t) ⟨rfl, rfl⟩) fun r s' z => ?_)))
  rcases r with er | (v | _ | _ | _) <;> first | exact z.elim | skip
  obtain ⟨rfl, rfl⟩ := z
  have hd : (s.heap.push (baObj [])).get? s.heap.objs.size = some (baObj []) := Heap.get?_push_size _ rfl
  have hTd : Shared.TypeIs { s with heap := s.heap.push (baObj []) } (.ref s.heap.objs.size) "bytearray" := ba_typeIs hd
  refine wpR_bindA (wpAny_isInstance hTd FX.sub_ba_self ?_)
  simp only [Bool.not_true, Bool.false_eq_true, if_false]
  have ht' : IsTup (s.heap.push (baObj [])) t #[] := ht.push _
  have hcs : wpR (model prog w) A.in1 (callSpecial? (.ref s.heap.objs.size) "__init__" [.ref t] []) (fun o s' => o = some .none ∧ Q (.ref s.heap.objs.size) s') E { s with heap := s.heap.push (baObj []) } := by
    unfold callSpecial?
    refine wpR_bindA (wpAny_specialOf hTd FX.slot_ba_init.lookup ?_)
    dsimp only
    refine wpR_holding ?_
    rw [FX.slot_ba_init.bind]
    refine wpR_bindA (wpAny_pure ?_)
    dsimp only
    refine wpR_bind (wpR_mono (Q := fun v s' => v = .none ∧ Q (.ref s.heap.objs.size) s') (E := E) (wpR_call_entry FX.slot_ba_init hTd FX.entry_ba_init (by decide +kernel) (FX.args_ba_init _ _) ?_) (fun v s' z => ?_) fun _ _ z => z)
    · exact wpR_ba_init hd ht' fun h' e1 e2 => ⟨rfl, h h' e1 fun b o eb => e2.extBut b o (Nat.ne_of_lt (Heap.lt_size eb)) (Heap.get?_push_of_some _ eb)⟩
    · obtain ⟨rfl, z⟩ := z
      exact wpR_pure ⟨rfl, z⟩
  refine wpR_bind (wpR_holding (wpR_mono hcs (fun o s' z => ?_) fun _ _ z => z))
  obtain ⟨rfl, z⟩ := z
  exact wpR_pure z
end
end Own
end
section
open PySem PySem.W PyProof.Rows PySem.Calls PySem.Spec Builtin
namespace Own.FX
theorem ends_buffer : ("bytearray.__buffer__" : String).endsWith ("." ++ "__buffer__") = true := by decide +kernel
theorem drop_buffer : ("bytearray.__buffer__" : String).dropRight ("__buffer__".length + 1) = "bytearray" := by decide +kernel
theorem slot_ba_len : Slot "bytearray" "__len__" "bytearray.__len__" :=
  .of (owner := "bytearray") (n := "__len__") (by rw [typeLookup_type, builtinLookup_eq_fast]; kernel_rfl) (by decide +kernel) (by decide +kernel) (by decide +kernel)
    (by first | exact .inl (by decide +kernel) | exact .inr (by decide +kernel)) (by rw [isSubtype_type]; kernel_rfl)
theorem entry_ba_len : entryFor table "bytearray.__len__" = some Builtin.«bytearray.__len__» := by first | exact entryFor_of_tree (by kernel_rfl) | exact entryFor_of_fast (by kernel_rfl)
theorem args_ba_len (a : Value) : argsOk "bytearray.__len__" ⟨[a], []⟩ := by unfold argsOk; kernel_rfl
end Own.FX
namespace Own
section
variable {prog : Program} {w : World} {A : Around} {E : Value → Shared → Prop} {s : Shared}
theorem ba_release {d : Addr} {bs : List Int} {Q : Bool → Shared → Prop} (ho : s.heap.get? d = some (baObj bs)) (h : Q false s) : wpAny (model prog w) A (Bytes.ownRelease (.ref d)) Q E s := by
  have hT := ba_typeIs ho
  unfold Bytes.ownRelease Bytes.slotIsOwn
  refine wpAny_bind (wpAny_bind (wpAny_specialOf hT FX.ba_release ?_))
  dsimp only
  rw [FX.ends_release, FX.drop_release]
  simp only [Bool.not_true, Bool.false_eq_true, if_false]
  exact wpAny_isInstance hT FX.sub_ba_self (wpAny_pure h)
theorem ba_slotOwn {d : Addr} {bs : List Int} {Q : Bool → Shared → Prop} (ho : s.heap.get? d = some (baObj bs)) (h : Q true s) : wpAny (model prog w) A (Bytes.slotIsOwn (.ref d) "__buffer__") Q E s := by
  have hT := ba_typeIs ho
  unfold Bytes.slotIsOwn
  refine wpAny_bind (wpAny_specialOf hT FX.ba_buffer ?_)
  dsimp only
  rw [FX.ends_buffer, FX.drop_buffer]
  simp only [Bool.not_true, Bool.false_eq_true, if_false]
  exact wpAny_isInstance hT FX.sub_ba_self h
theorem ba_bufferOf {d : Addr} {bs : List Int} {id : String} {full : Bool} {Q : Option (Array UInt8) → Shared → Prop} (ho : s.heap.get? d = some (baObj bs)) (h : Q (some (byteArr bs)) s) : wpAny (model prog w) A (Bytes.buffer? id (.ref d) full) Q E s := by
  have hT := ba_typeIs ho
  unfold Bytes.buffer?
  refine wpAny_bind (wpAny_specialOf hT FX.ba_buffer ?_)
  dsimp only
  refine wpAny_bind (ba_slotOwn ho ?_)
  simp only [Bool.not_true, Bool.false_eq_true, if_false]
  refine wpAny_bind (wpAny_specialOf hT FX.ba_buffer ?_)
  refine wpAny_bind (ba_release ho ?_)
  simp only [Bool.false_eq_true, if_false]
  exact wpAny_bind (ba_payload ho (wpAny_pure h))
theorem ba_take {d : Addr} {bs : List Int} {id : String} {fl : Int} {Q : Option (Array UInt8 × Option Value) → Shared → Prop} (ho : s.heap.get? d = some (baObj bs)) (h : Q (some (byteArr bs, none)) s) : wpAny (model prog w) A (Bytes.takeBufferQuiet? id (.ref d) fl) Q E s := by
  have hT := ba_typeIs ho
  unfold Bytes.takeBufferQuiet? Bytes.takeBuffer?
  refine wpAny_bind (wpAny_attempt (wpAny_bind (wpAny_specialOf hT FX.ba_buffer ?_)))
  dsimp only
  refine wpAny_bind (ba_slotOwn ho ?_)
  simp only [Bool.not_true, Bool.false_eq_true, if_false]
  refine wpAny_bind (wpAny_specialOf hT FX.ba_buffer ?_)
  refine wpAny_bind (ba_bufferOf ho (wpAny_pure ?_))
  exact wpAny_pure h
theorem wpR_extend_ba {d e : Addr} {bs cs : List Int} {Q : Value → Shared → Prop} (ho : s.heap.get? d = some (baObj bs)) (he : s.heap.get? e = some (baObj cs)) (hz : bs.length + cs.length ≤ sizeLine)
    (h : ∀ h', h'.get? d = some (baObj (bs ++ cs)) → Heap.SameBut d s.heap h' → Q .none { s with heap := h' }) : wpR (model prog w) A (call (.builtin "bytearray.extend") [.ref d, .ref e]) Q E s := by
  refine wpR_call_entry FX.slot_ba_extend (ba_typeIs ho) FX.entry_ba_extend (by decide +kernel) (FX.args_ba_extend _ _) ?_
  unfold «bytearray.extend»
  refine wpR_bindA (wpAny_of_eq (a := (.ref d, .ref e)) rfl ?_)
  dsimp only
  refine wpR_bindA (wpAny_specialOf (ba_typeIs he) FX.ba_buffer ?_)
  simp only [Option.isSome_some, if_true]
  refine wpR_bindA (wpAny_rule (wpR_bindA (ba_payload ho (wpR_bindA (ba_take he ?_)))))
  dsimp only
  simp only [Option.isNone_none, if_true]
  have hw : ∀ u : Unit, wpR (model prog w) A.in1 (Bytes.write (.ref d) (· ++ byteArr cs) >>= fun _ => ret .none) (fun fin s' => match fin with | .done (.ret v) => Q v s' | .done _ => False | .again c' => c'.quiet = true ∧ cleanCode c' = true ∧ codeR (model prog w) A c' (fun r s' => match r with | .ok (.ret v) => Q v s' | .ok _ => False | .error e => E e s') s') E s := fun _ =>
    wpR_bindA (ba_write ho (byteArr_append bs cs).symm (by simp; exact hz) fun h' h1 h2 => wpR_pure (h h' h1 h2))
  show wpR _ _ (if (!(byteArr cs).isEmpty) = true then (Bytes.checkResize (.ref d) >>= fun u => Bytes.write (.ref d) (· ++ byteArr cs) >>= fun _ => ret .none) else (pure () >>= fun _ => Bytes.write (.ref d) (· ++ byteArr cs) >>= fun _ => ret .none)) _ _ s
  by_cases hem : (!(byteArr cs).isEmpty) = true
  · rw [if_pos hem]; exact wpR_bind (wpR_checkResize ho (hw ()))
  · rw [if_neg hem]; exact wpR_bind (wpR_pure (hw ()))
theorem len_ba {d : Addr} {bs : List Int} {Q : Value → Shared → Prop} (ho : s.heap.get? d = some (baObj bs)) (hfit : bs.length ≤ sizeLine)
    (h : Q (.int bs.length (s.toks + 1)) { s with toks := s.toks + 1 + 1 }) : wpAny (model prog w) A (call (.builtin "len") [.ref d]) Q E s := by
  have hsz : sizeLine < 2 ^ 63 := by decide
  refine Calls.call_function_entry kind_len plain_len entry_len (args_len1 _) ?_
  unfold Builtin.«len»
  refine wpAny_bind (m := oneArg "len" _) (wpAny_pure ?_)
  refine wpAny_bind (m := callSpecial? (.ref d) (Str.ofString "__len__")) (wpAny_callSpecial?_slot (name := Str.ofString "__len__") (ba_typeIs ho) FX.slot_ba_len
    (wpAny_call_entry FX.slot_ba_len (ba_typeIs ho) FX.entry_ba_len ?_ (FX.args_ba_len _)))
  · show wpAny _ _ (do retInt (← Bytes.payload (.ref d)).size) _ _ s
    refine wpAny_bind (ba_payload ho ?_)
    rw [byteArr_size]
    refine wpAny_bind (wpAny_mkInt (wpAny_pure ⟨_, rfl, ?_⟩))
    refine wpAny_bind (wpAny_holding (wpAny_pure ?_))
    refine wpAny_bind (wpAny_letGo ?_)
    show wpAny _ _ (if ((bs.length : Nat) : Int) < 0 then _ else _) _ _ _
    rw [if_neg (by omega)]
    show wpAny _ _ (if ((bs.length : Nat) : Int) ≥ 2 ^ 63 then _ else _) _ _ _
    rw [if_neg (by omega)]
    exact wpAny_bind (wpAny_mkInt (wpAny_pure ⟨_, rfl, h⟩))
theorem getMethod_baN {h₀ : Heap} {L d : Addr} {news : List (Addr × Obj)} {bs : List Int} {pl : Sem Bool} {Q : Value × List Value → Shared → Prop} (N : News h₀ L s.heap news) (m : (d, baObj bs) ∈ news)
    (h : Q (.builtin "bytearray.extend", [.ref d]) s) : wpAny (model prog w) A (getMethod (.ref d) "extend" pl) Q E s := getMethod_ba_extend (N _ m).1 h
theorem len_baN {h₀ : Heap} {L d : Addr} {news : List (Addr × Obj)} {bs : List Int} {Q : Value → Shared → Prop} (N : News h₀ L s.heap news) (m : (d, baObj bs) ∈ news) (hfit : bs.length ≤ sizeLine)
    (h : ∀ t tk, Q (.int bs.length t) { s with toks := tk }) : wpAny (model prog w) A (call (.builtin "len") [.ref d]) Q E s := len_ba (N _ m).1 hfit (h _ _)
end
end Own
end
section
open PySem PySem.W PyProof.Rows PySem.Calls PySem.Spec Builtin Builtin.ObjectAttr Builtin.Getset_descriptor
namespace Own
section
variable {prog : Program} {w : World} {A : Around} {K : Frag} {C : Addr} {R : Result → Shared → Prop} {h : Heap} {g : Array GenState} {d : Drawn} {t : Nat} {os : OsState}
/-- the making of an instance whose `__init__` is walked under a clean stack -/
theorem make_coreR {rest : List Value} {kw : List (Str × Value)} {fI : Addr} {cd : ClassData} (X : K.In h) (Y : Makes (model prog w) h C) (hcl : clsIn K C = some cd) (hne0 : cd.mro.isEmpty = false) (hi : findIn K (.ref C) "__init__" = some (some (.ref fI))) (hf : isFn K (.ref fI) = true)
    (hq : codeR (model prog w) (A.under (.builtin "type.__call__" ⟨.ref C :: rest, kw⟩)) (.call (.ref fI) ⟨.ref (h.objs.size + 1) :: rest, kw⟩) (InitBack (h.objs.size + 1) R) ⟨(h.push emptyDict).push (instObj C h.objs.size), g, d, t, os⟩) :
    codeR (model prog w) A (.call (.ref C) ⟨rest, kw⟩) R ⟨h, g, d, t, os⟩ := by
  have Y' := Y
  have hiL := looks_findIn (M := model prog w) X hi
  obtain ⟨⟨oc, od, cd', sl, hC, e1, e2, e4⟩, made, base, self, top, call, typ⟩ := Y
  have hm : Looks (model prog w) h (mroOf (.ref C)) cd.mro := (looks_clsIn X hcl).andThen .now
  refine codeR_of_tree ?_
  show wpR _ _ (callAny (.ref C) _) _ _ _
  refine wpR_bindA (wpAny_load hC ?_)
  dsimp only
  show wpR _ _ (callAny.viaDunder (.ref C) _) _ _ _
  unfold callAny.viaDunder
  refine wpR_bindA (call.at ?_)
  dsimp only
  rw [tc_bind]
  refine wpR_bindA (wpAny_pure (wpR_bindA (wpAny_pure ?_)))
  refine wpR_pure (a := Fin.again (.call (.builtin "type.__call__") ⟨.ref C :: rest, kw⟩)) ⟨rfl, rfl, ?_⟩
  refine codeR_of_tree ?_
  show wpR _ _ (do checkBuiltinCall "type.__call__" ⟨.ref C :: rest, kw⟩; again (.builtin "type.__call__" ⟨.ref C :: rest, kw⟩)) _ _ _
  refine wpR_bindA (check_slot tc_kind tc_split typ (tc_args _ _ _) (wpR_pure ⟨Code.quiet_builtin _ (by decide +kernel), rfl, codeR_builtin_under entry_typeCall ?_⟩))
  unfold Builtin.«type.__call__»
  dsimp only
  refine wpR_bindA (hm.at ?_)
  rw [hne0]
  simp only [Bool.false_eq_true, if_false]
  refine wpR_bindA (made.at ?_)
  dsimp only
  refine wpR_bindA (wpAny_pure ?_)
  have hne : (some (Value.ref fI) != some (Value.builtin "object.__init__")) = true := by rfl
  refine wpR_bindA (wpAny_holding (wpAny_call (new_K Y' hiL (.inl hne) ?_)))
  have k : ∀ b o, h.get? b = some o → ((h.push emptyDict).push (instObj C h.objs.size)).get? b = some o := fun b o e => Heap.get?_push_of_some _ (Heap.get?_push_of_some _ e)
  have hx : ((h.push emptyDict).push (instObj C h.objs.size)).get? (h.objs.size + 1) = some (instObj C h.objs.size) := by heap_get
  have t1 : Looks (model prog w) ((h.push emptyDict).push (instObj C h.objs.size)) (typeOf (.ref (h.objs.size + 1))) (.ref C) := (Looks.ld hx).andThen .now
  have s1 := self.keeps k
  have i1 := hiL.keeps k
  have b1 := bind_fn (M := model prog w) (X.keeps k) (.ref (h.objs.size + 1)) (beq_iff_eq.mp hf)
  refine wpR_bindA ((t1.andThen s1 : Looks (model prog w) _ (isInstance (.ref (h.objs.size + 1)) (.ref C)) true).at ?_)
  simp only [Bool.not_true, Bool.false_eq_true, if_false]
  refine wpR_bind (wpR_holding ?_)
  unfold callSpecial? specialOf
  refine wpR_bindA (wpAny_bind (t1.at (i1.at ?_)))
  dsimp only
  refine wpR_holding (wpR_bindA (b1.at ?_))
  dsimp only
  refine wpR_bind (wpR_call (codeR_mono hq fun r s' z => ?_))
  rcases r with e | (v | _ | _ | _) <;> first | exact z | exact z.elim | skip
  obtain ⟨rfl, z⟩ := z
  exact wpR_pure (wpR_pure z)
end
end Own
end
section
open PySem PySem.W PyProof.Rows PySem.Calls
namespace Own
section
variable {M : Model} {A : Around} {E : Value → Shared → Prop} {s : Shared} {env : Env}
theorem wpR_Try {body orelse : List Stmt} {h₀ : ExceptHandler} {hs : List ExceptHandler} {pos : Pos} {Q : Flow → Shared → Prop}
    (h : wpR M A (execs body env) (fun f s₁ => match f with | .next => wpR M A (execs orelse env) Q E s₁ | f => Q f s₁)
      (fun e s₁ => wpAny M A (noteFrame e env) (fun _ s₂ => wpAny M A (setFlight e none) (fun _ s₃ => wpAny M A (handleBy e env (h₀ :: hs)) Q E s₃) E s₂) E s₁) s) :
    wpR M A (exec (.Try body (h₀ :: hs) orelse [] pos) env) Q E s := by
  rw [arm_exec_Try]
  refine wpR_bindA (wpAny_standAt ?_)
  show wpR M A (do
    match ← (execs body env).attempt with
    | .ok .next => execs orelse env
    | .ok f => pure f
    | .error e =>
      noteFrame e env
      setFlight e none
      handleBy e env (h₀ :: hs)) Q E s
  refine wpR_bind (wpR_attempt (wpR_mono h (fun f s₁ h₁ => ?_) (fun e s₁ h₁ => ?_)))
  · cases f with
    | next => exact h₁
    | brk => exact wpR_pure h₁
    | cont => exact wpR_pure h₁
    | ret v => exact wpR_pure h₁
  · exact wpR_of (wpAny_bind (wpAny_mono h₁ (fun _ s₂ h₂ => wpAny_bind h₂) fun _ _ x => x))
end
end Own
end
section
open PySem PySem.W PyProof.Rows PySem.Calls PySem.Spec Builtin
namespace Own
section
variable {prog : Program} {w : World} {A : Around}
variable {s : Shared} {g : Heap} {cn : Str} {cs : Scope} {L a : Addr} {ccd : Value} {cl : List (Str × Addr)} {px : Pos} {body : List Stmt} {R : Result → Shared → Prop}
/-- «for x, y in a list of pairs» -/
theorem forT {I D : Addr} {its : Array Value} {c : Nat} {m : Str → Option Value} {news : Led} {x y : Str} {p1 p2 : Pos} {k1} (hh : A.handled = none)
    (hx : (envX cn cs L a ccd cl).kindOf x = some .local) (hy : (envX cn cs L a ccd cl).kindOf y = some .local) (hp : ((envX cn cs L a ccd cl).scope.kind == .class || ((envX cn cs L a ccd cl).scope.kind == .module && (envX cn cs L a ccd cl).locals != (envX cn cs L a ccd cl).globals)) = false)
    (T : Nat → Addr) (va vb : Nat → Value) (tob : Nat → Obj) (hits : ∀ i, i < its.size → its[i]? = some (.ref (T i)))
    (htob : ∀ i, i < its.size → (tob i).cls = .type "tuple" ∧ ∃ n, (tob i).data = .seq #[va i, vb i] n)
    (J : Nat → (Str → Option Value) → Led → Prop) (hside : ∀ i m₁ news₁, J i m₁ news₁ → (D, listOf its c) ∈ news₁ ∧ (i < its.size → (T i, tob i) ∈ news₁))
    (F : Fr g L s.heap m) (N : News g L s.heap ((I, liObj D 0) :: news)) (hap : ∀ q ∈ news, q.1 ≠ I) (hG : AllBare s.gens) (h0 : J 0 m news)
    (turn : ∀ (i : Nat) (m₁ : Str → Option Value) (news₁ : Led) (h : Heap) (tk : Nat) (gn : Array GenState), i < its.size → J i m₁ news₁ → (∀ q ∈ news₁, q.1 ≠ I) → Fr g L h (fun z => if z = y then some (vb i) else if z = x then some (va i) else m₁ z) → News g L h ((I, liObj D (i + 1)) :: news₁) → AllBare gn →
      wpR (model prog w) A (execs body (envX cn cs L a ccd cl)) (fun f s₃ => match f with
        | .next | .cont => ∃ m₂ news₂, J (i + 1) m₂ news₂ ∧ (∀ q ∈ news₂, q.1 ≠ I) ∧ Fr g L s₃.heap m₂ ∧ News g L s₃.heap ((I, liObj D (i + 1)) :: news₂) ∧ AllBare s₃.gens ∧ s₃.drawn = s.drawn ∧ s₃.os = s.os
        | .brk => R (.ok .next) s₃
        | .ret v => R (.ok (.ret v)) s₃) (notedBy (model prog w) A (envX cn cs L a ccd cl) fun e s' => R (.error e) s') ⟨h, gn, s.drawn, tk, s.os⟩)
    (done : ∀ m' news' h' tk gn, J its.size m' news' → Fr g L h' m' → News g L h' news' → AllBare gn → R (.ok .next) ⟨h', gn, s.drawn, tk, s.os⟩) :
    codeR (model prog w) A (.forLoop (.Tuple [.Name x p1, .Name y p2] k1 px) (.ref I) body [] (envX cn cs L a ccd cl)) R s := by
  have S := Steps.list (prog := prog) (w := w) (A := A) hh I D its c
  refine codeR_forLoop (fun k s₁ => ∃ i m₁ news₁, k = its.size - i ∧ i ≤ its.size ∧ J i m₁ news₁ ∧ (∀ q ∈ news₁, q.1 ≠ I) ∧ Fr g L s₁.heap m₁ ∧ News g L s₁.heap ((I, liObj D i) :: news₁) ∧ AllBare s₁.gens ∧ s₁.drawn = s.drawn ∧ s₁.os = s.os) ?_ its.size ⟨0, m, news, rfl, Nat.zero_le _, h0, hap, F, N, hG, rfl, rfl⟩
  rintro k s₁ ⟨i, m₁, news₁, rfl, hi, hJ, hap₁, F₁, N₁, hG₁, hd₁, ho₁⟩
  obtain ⟨h₁, gn, dr, tk, os⟩ := s₁
  have hI := N₁ (I, liObj D i) (.head _)
  have Nt : News g L h₁ news₁ := fun q hq => N₁ q (.tail _ hq)
  have hsd := hside i m₁ news₁ hJ
  dsimp only at hd₁ ho₁
  subst hd₁; subst ho₁
  rcases Nat.lt_or_ge i its.size with hlt | hge
  · refine S.item i _ _ _ hlt hI.1 (Nt _ hsd.1).1 fun v h' tk' hP ho' hs' => ?_
    rw [hits i hlt] at hP
    injection hP with hP
    subst hP
    dsimp only
    have hLI : I ≠ L := hI.2.1
    have F' : Fr g L h' m₁ := F₁.change hs' hLI hI.2.2
    have N' : News g L h' ((I, liObj D (i + 1)) :: news₁) := fun q hq => by
      rcases List.mem_cons.mp hq with rfl | hq
      · exact ⟨ho', hI.2⟩
      · exact ⟨(hs'.2 _ (hap₁ q hq)).trans (Nt q hq).1, (Nt q hq).2⟩
    refine wpAny_letOwnedTupleGo_listiter (l := D) (i := i + 1) ⟨_, ho', rfl, rfl⟩ ?_
    have hT := N' _ (.tail _ (hsd.2 hlt))
    obtain ⟨hc1, n1, hd1⟩ := htob i hlt
    refine assign_Tuple_tuple hh ⟨_, hT.1, hc1, n1, hd1⟩ rfl rfl fun h3 hx3 => ?_
    have F3 : Fr g L h3 m₁ := F'.extBut hx3 (Nat.le_refl _)
    have N3 : News g L h3 ((I, liObj D (i + 1)) :: news₁) := fun q hq => ⟨hx3 _ _ (Nat.ne_of_lt (Heap.lt_size (N' q hq).1)) (N' q hq).1, (N' q hq).2⟩
    simp only [assignEach, List.map_cons, List.map_nil]
    unfold assignInOrder
    refine wpAny_bind (wpAny_holding (wpAny_assign_Name (wpAny_storeName_local hx F3.ns (fun h4 hn4 hs4 => ?_) hp)))
    have F4 := F3.set hn4 hs4
    have N4 : News g L h4 ((I, liObj D (i + 1)) :: news₁) := fun q hq => ⟨(hs4.2 _ (N3 q hq).2.1).trans (N3 q hq).1, (N3 q hq).2⟩
    unfold assignInOrder
    refine wpAny_bind (wpAny_holding (wpAny_assign_Name (wpAny_storeName_local hy F4.ns (fun h5 hn5 hs5 => ?_) hp)))
    have F5 := F4.set hn5 hs5
    have N5 : News g L h5 ((I, liObj D (i + 1)) :: news₁) := fun q hq => ⟨(hs5.2 _ (N4 q hq).2.1).trans (N4 q hq).1, (N4 q hq).2⟩
    unfold assignInOrder
    refine wpAny_pure ?_
    refine wpR_mono (turn i m₁ news₁ h5 _ gn hlt hJ hap₁ F5 N5 hG₁) (fun f s₃ hf => ?_) fun _ _ z => z
    cases f with
    | next => obtain ⟨m₂, news₂, r⟩ := hf; exact ⟨its.size - (i + 1), by omega, i + 1, m₂, news₂, rfl, hlt, r⟩
    | cont => obtain ⟨m₂, news₂, r⟩ := hf; exact ⟨its.size - (i + 1), by omega, i + 1, m₂, news₂, rfl, hlt, r⟩
    | brk => exact hf
    | ret v => exact hf
  · have e : i = its.size := Nat.le_antisymm hi hge
    subst e
    refine S.done _ _ _ hI.1 (Nt _ hsd.1).1 fun h' tk' he' => ?_
    have F' : Fr g L h' m₁ := fr_but (ex := [I]) F₁ (fun b o hb eb => he' b o (fun q => hb (List.mem_singleton.mpr q)) eb) (fun b hb => by rw [List.mem_singleton.mp hb]; exact ⟨hI.2.2, hI.2.1⟩)
    have N' : News g L h' news₁ := fun q hq => ⟨he' _ _ (hap₁ q hq) (Nt q hq).1, (Nt q hq).2⟩
    exact done m₁ news₁ h' tk' gn hJ F' N' hG₁
end
end Own
end
section
open PySem PySem.W PyProof.Rows PyProof.V PySem.Calls PySem.Spec PySem.SeqAt
namespace Own
/-- a run: its kind and its octets -/
abbrev RunD := Int × List Int
def runP (r : RunD) : PyData := .list [.int r.1, .list (r.2.map PyData.int)]
def runsP (rs : List RunD) : PyData := .list (rs.map runP)
theorem canLay_runs : ∀ rs : List RunD, PyData.canLayAll0 (rs.map runP) = true
  | [] => by simp [PyData.canLayAll0]
  | r :: rs => by simp [PyData.canLayAll0, PyData.canLay0, runP, canLay_runs rs, canLayAll0_ints r.2]
theorem depth_runs : ∀ rs : List RunD, PyData.depthAll (rs.map runP) ≤ 3
  | [] => by simp [PyData.depthAll]
  | r :: rs => by
    have h1 := depth_runs rs
    have h2 := PySem.W.depthAll_ints r.2
    simp only [List.map_cons, PyData.depthAll, PyData.depth, runP]
    omega
theorem shaped_runs (rs : List RunD) : shaped (runsP rs) = true := by
  have h1 := depth_runs rs
  have h2 : PyData.depth (runsP rs) ≤ 64 := by simp only [runsP, PyData.depth]; omega
  show (PyData.canLay0 (runsP rs) && decide (PyData.depth (runsP rs) ≤ 64)) = true
  rw [Bool.and_eq_true]
  exact ⟨by simp only [runsP, PyData.canLay0]; exact canLay_runs rs, decide_eq_true h2⟩
theorem noMix_runs : ∀ rs ss : List RunD, noMixAll (rs.map runP) (ss.map runP) = true
  | [], [] => by simp [noMixAll]
  | [], _ :: _ => by simp [noMixAll]
  | _ :: _, [] => by simp [noMixAll]
  | r :: rs, q :: ss => by simp [noMixAll, noMix, runP, noMix_ints r.2 q.2, noMix_runs rs ss]
theorem same_runs : ∀ rs ss : List RunD, PySem.Spec.sameAll (rs.map runP) (ss.map runP) = decide (rs = ss)
  | [], [] => by simp [PySem.Spec.sameAll]
  | [], _ :: _ => by simp [PySem.Spec.sameAll]
  | _ :: _, [] => by simp [PySem.Spec.sameAll]
  | ⟨a, l⟩ :: rs, ⟨b, m⟩ :: ss => by
    simp only [List.map_cons, PySem.Spec.sameAll, PySem.Spec.same, runP, same_ints l m, same_runs rs ss]
    by_cases h1 : a = b <;> by_cases h2 : l = m <;> by_cases h3 : rs = ss <;> simp [h1, h2, h3]
section
variable {prog : Program} {w : World} {A : Around} {E : Value → Shared → Prop} {s : Shared}
/-- == of two lists of runs -/
theorem eq_runs {a b : Addr} {rs ss : List RunD} {as bs : List Addr} {Q : Value → Shared → Prop} (ra : Reads s.heap (.ref a) (runsP rs) as) (rb : Reads s.heap (.ref b) (runsP ss) bs) (hu : A.units + 64 < cLine)
    (h : Q (.bool (decide (rs = ss))) s) : wpAny (model prog w) A (compareOp .Eq (.ref a) (.ref b)) Q E s :=
  eq_dataH_same ra rb (shaped_runs rs) (shaped_runs ss) hu (by simp only [runsP, noMix]; exact noMix_runs rs ss) (by simp only [runsP, PySem.Spec.same]; rw [same_runs]; exact h)
end
/-- a run as it stands in the heap -/
def RunAt (h : Heap) (v : Value) (r : RunD) : Prop := ∃ a o vs t, v = .ref a ∧ h.IsList a #[.int r.1 t, .ref o] ∧ h.IsList o (List.toArray vs) ∧ IntsAre vs r.2
theorem reads_run {h : Heap} {v : Value} {r : RunD} (x : RunAt h v r) : ∃ as, Reads h v (runP r) as := by
  obtain ⟨a, o, vs, t, rfl, h1, h2, h3⟩ := x
  obtain ⟨ob, ho, hc, n, hd⟩ := h1
  exact ⟨_, Reads.list ho hc hd (ReadsAll.cons (Reads.int _ _) (ReadsAll.cons (reads_of_ints h2 h3) ReadsAll.nil))⟩
inductive RunsAt (h : Heap) : List Value → List RunD → Prop
  | nil : RunsAt h [] []
  | cons {v : Value} {r : RunD} {vs : List Value} {rs : List RunD} : RunAt h v r → RunsAt h vs rs → RunsAt h (v :: vs) (r :: rs)
theorem readsAll_runs {h : Heap} : ∀ {vs : List Value} {rs : List RunD}, RunsAt h vs rs → ∃ as, ReadsAll h vs (rs.map runP) as
  | _, _, .nil => ⟨_, .nil⟩
  | _, _, .cons x r => by
    obtain ⟨a1, h1⟩ := reads_run x
    obtain ⟨a2, h2⟩ := readsAll_runs r
    exact ⟨_, .cons h1 h2⟩
theorem reads_runs {h : Heap} {a : Addr} {vs : List Value} {rs : List RunD} (hl : h.IsList a vs.toArray) (hr : RunsAt h vs rs) : ∃ as, Reads h (.ref a) (runsP rs) as := by
  obtain ⟨as, x⟩ := readsAll_runs hr
  obtain ⟨o, ho, hc, n, hd⟩ := hl
  exact ⟨_, Reads.list ho hc hd (by simpa using x)⟩
end Own
end
section
open PySem PySem.W PyProof.Rows PySem.Calls
namespace Own
section
variable {prog : Program} {w : World} {A : Around} {s : Shared} {env : Env}
theorem codeR_whileLoop {R : Result → Shared → Prop} {test : Expr} {body : List Stmt} (I : Nat → Shared → Prop)
    (turn : ∀ n s, I n s → wpAny (model prog w) A (isTrue test env (eval test env)) (fun b s₂ =>
      if b then wpR (model prog w) A (execs body env) (fun f s₃ => match f with
            | .next | .cont => ∃ m, m < n ∧ I m s₃
            | .brk => R (.ok .next) s₃
            | .ret v => R (.ok (.ret v)) s₃) (notedBy (model prog w) A env fun e s' => R (.error e) s') s₂
        else R (.ok .next) s₂) (notedBy (model prog w) A env fun e s' => R (.error e) s') s)
    (n : Nat) (h : I n s) : codeR (model prog w) A (.whileLoop test body [] env) R s := by
  refine codeR_loop rfl rfl I (fun n s hI => ?_) n h
  show wpR _ A ((whileTurn test body [] env).onRaise (fun x => do noteFrame x env; theTreesLotGoes x)) _ _ s
  refine wpR_noted ?_
  simp only [whileTurn]
  refine wpR_bindA (wpAny_mono (turn n s hI) (fun b s₂ h₂ => ?_) fun _ _ h' => h')
  cases b with
  | false =>
    simp only [Bool.false_eq_true, if_false] at h₂ ⊢
    exact wpR_bind (wpR_execs_nil (wpR_pure h₂))
  | true =>
    simp only [if_true] at h₂ ⊢
    refine wpR_bind (wpR_mono h₂ (fun f s₃ h₃ => ?_) fun _ _ h' => h')
    cases f with
    | next => exact wpR_pure (.inl ⟨rfl, h₃⟩)
    | cont => exact wpR_pure (.inl ⟨rfl, h₃⟩)
    | brk => exact wpR_pure h₃
    | ret v => exact wpR_pure h₃
end
section
variable {M : Model} {A : Around} {E : Value → Shared → Prop} {s : Shared} {env : Env}
theorem wpR_While {test : Expr} {body : List Stmt} {pos : Pos} {Q : Flow → Shared → Prop}
    (h : codeR M A (.whileLoop test body [] env) (fun r s' => match r with | .ok f => Q f s' | .error e => cameBackBy M A env E e s') s) :
    wpR M A (exec (.While test body [] pos) env) Q E s := by
  rw [exec_While]; exact wpR_bindA (wpAny_standAt (wpR_runOwn rfl h))
end
end Own
end
section
open PySem PySem.W PyProof.Rows PySem.Calls
namespace Own
section
variable {M : Model} {A : Around} {E : Value → Shared → Prop} {s : Shared} {env : Env}
theorem wpR_isTrue_Compare1 {l r : Expr} {op : CmpOp} {pos : Pos} {whole : Sem Value} {Q : Bool → Shared → Prop}
    (h : wpR M A (eval l env) (fun a s₁ => wpR M A (eval r env) (fun b s₂ => wpAny M A (compareOp op a b) (fun c s₃ => wpAny M A (truthy c) Q E s₃) E s₂) E s₁) E s)
    (hm : behindInMarks op r = false := by with_unfolding_all rfl) : wpR M A (isTrue (.Compare l [op] [r] pos) env whole) Q E s := by
  rw [isTrue_Compare1, markedBehindIn_of_false hm]
  refine wpR_bind (wpR_mono h (fun a s₁ h₁ => wpR_bind (wpR_holding (wpR_mono h₁ (fun b s₂ h₂ => wpR_bindA (wpAny_standAt ?_)) fun _ _ x => x))) fun _ _ x => x)
  exact wpR_of (wpAny_bind (wpAny_operate' (wpAny_mono h₂ (fun c s₃ h₃ => wpAny_holding h₃) fun _ _ x => x)))
theorem wpR_Compare1 {l r : Expr} {op : CmpOp} {pos : Pos} {Q : Value → Shared → Prop}
    (h : wpR M A (eval l env) (fun a s₁ => wpR M A (eval r env) (fun b s₂ => wpAny M A (compareOp op a b) Q E s₂) E s₁) E s)
    (hm : behindInMarks op r = false := by with_unfolding_all rfl) : wpR M A (eval (.Compare l [op] [r] pos) env) Q E s := by
  rw [eval_Compare1, markedBehindIn_of_false hm]
  refine wpR_bind (wpR_mono h (fun a s₁ h₁ => wpR_bind (wpR_holding (wpR_mono h₁ (fun b s₂ h₂ => wpR_bindA (wpAny_standAt ?_)) fun _ _ x => x))) fun _ _ x => x)
  exact wpR_of (wpAny_operate' h₂)
theorem wpR_allTrue_Or_nil {Q : Bool → Shared → Prop} (h : Q false s) : wpR M A (allTrue .Or [] env) Q E s := wpR_pure h
theorem wpR_allTrue_Or_cons {x : Expr} {rest : List Expr} {Q : Bool → Shared → Prop}
    (h : wpR M A (isTrue x env (eval x env)) (fun b s₁ => if b then Q true s₁ else wpR M A (allTrue .Or rest env) Q E s₁) E s) : wpR M A (allTrue .Or (x :: rest) env) Q E s := by
  rw [arm_allTrue_cons]
  refine wpR_bind (wpR_mono h (fun b s₁ h₁ => ?_) fun _ _ x => x)
  cases b with
  | true => exact wpR_pure h₁
  | false => exact h₁
theorem wpR_allTrue_And_cons {x : Expr} {rest : List Expr} {Q : Bool → Shared → Prop}
    (h : wpR M A (isTrue x env (eval x env)) (fun b s₁ => if b then wpR M A (allTrue .And rest env) Q E s₁ else Q false s₁) E s) : wpR M A (allTrue .And (x :: rest) env) Q E s := by
  rw [arm_allTrue_cons]
  refine wpR_bind (wpR_mono h (fun b s₁ h₁ => ?_) fun _ _ x => x)
  cases b with
  | true => exact h₁
  | false => exact wpR_pure h₁
end
section
variable {prog : Program} {w : World} {A : Around} {E : Value → Shared → Prop} {s : Shared} {env : Env}
theorem wpR_Attribute {value : Expr} {attr : Str} {pos : Pos} {Q : Value → Shared → Prop} (hb : attributeBase value attr env (eval value env) = eval value env)
    (h : wpR (model prog w) A (eval value env) (fun o s₁ => wpAny (model prog w) A (getAttr o attr true) Q E s₁) E s) : wpR (model prog w) A (eval (.Attribute value attr pos) env) Q E s := by
  rw [arm_eval_Attribute, hb]
  exact wpR_bind (wpR_mono h (fun o s₁ h₁ => wpR_bindA (wpAny_standAt (wpR_of (wpAny_bind (wpAny_holding (wpAny_mono h₁ (fun r s₂ h₂ => wpAny_bind (wpAny_letTemporaryGo (wpAny_pure h₂))) fun _ _ x => x)))))) fun _ _ x => x)
end
end Own
namespace Own
section
variable {M : Model} {A : Around} {E : Value → Shared → Prop} {s : Shared} {env : Env}
theorem wpR_And2 {x y : Expr} {pos : Pos} {Q : Value → Shared → Prop}
    (h : wpR M A (eval x env) (fun v s₁ => wpAny M A (truthy v) (fun t s₂ => if t then wpR M A (eval y env) Q E s₂ else Q v s₂) E s₁) E s) : wpR M A (eval (.BoolOp .And [x, y] pos) env) Q E s := by
  rw [arm_eval_BoolOp]
  simp only [evalEach, boolOp]
  refine wpR_bind (wpR_mono h (fun v s₁ h₁ => wpR_bindA (wpAny_standAt (wpR_bindA (wpAny_holding (wpAny_mono h₁ (fun t s₂ h₂ => ?_) fun _ _ x => x))))) fun _ _ x => x)
  cases t with
  | true => exact h₂
  | false => exact wpR_pure h₂
end
end Own
end
section
open PySem PySem.W PyProof.Rows PySem.Calls PySem.Spec Builtin
namespace Own
namespace FX
theorem slot_ba_iter : Slot "bytearray" "__iter__" "bytearray.__iter__" :=
  .of (owner := "bytearray") (n := "__iter__") (by rw [typeLookup_type, builtinLookup_eq_fast]; kernel_rfl) (by decide +kernel) (by decide +kernel) (by decide +kernel)
    (by first | exact .inl (by decide +kernel) | exact .inr (by decide +kernel)) (by rw [isSubtype_type]; kernel_rfl)
theorem entry_ba_iter : entryFor table "bytearray.__iter__" = some Builtin.«bytearray.__iter__» := by first | exact entryFor_of_tree (by kernel_rfl) | exact entryFor_of_fast (by kernel_rfl)
theorem args_ba_iter (a : Value) : argsOk "bytearray.__iter__" ⟨[a], []⟩ := by unfold argsOk; kernel_rfl
theorem slot_bai_next : Slot "bytearray_iterator" "__next__" "bytearray_iterator.__next__" :=
  .of (owner := "bytearray_iterator") (n := "__next__") (by rw [typeLookup_type, builtinLookup_eq_fast]; kernel_rfl) (by decide +kernel) (by decide +kernel) (by decide +kernel)
    (by first | exact .inl (by decide +kernel) | exact .inr (by decide +kernel)) (by rw [isSubtype_type]; kernel_rfl)
theorem entry_bai_next : entryFor table "bytearray_iterator.__next__" = some Builtin.«bytearray_iterator.__next__» := by first | exact entryFor_of_tree (by kernel_rfl) | exact entryFor_of_fast (by kernel_rfl)
theorem args_bai_next (a : Value) : argsOk "bytearray_iterator.__next__" ⟨[a], []⟩ := by unfold argsOk; kernel_rfl
end FX
namespace FX
theorem slot_bai_self : Slot "bytearray_iterator" "__iter__" "bytearray_iterator.__iter__" :=
  .of (owner := "bytearray_iterator") (n := "__iter__") (by rw [typeLookup_type, builtinLookup_eq_fast]; kernel_rfl) (by decide +kernel) (by decide +kernel) (by decide +kernel)
    (by first | exact .inl (by decide +kernel) | exact .inr (by decide +kernel)) (by rw [isSubtype_type]; kernel_rfl)
theorem entry_bai_self : entryFor table "bytearray_iterator.__iter__" = some Builtin.«dict_keyiterator.__iter__» := entryFor_alias (id' := "dict_keyiterator.__iter__") (by kernel_rfl) rfl (by decide +kernel) (by kernel_rfl)
theorem args_bai_self (a : Value) : argsOk "bytearray_iterator.__iter__" ⟨[a], []⟩ := by unfold argsOk; kernel_rfl
end FX
def IsBaIter (h : Heap) (it d : Addr) (bs : List Int) (i : Nat) : Prop := (∃ o, h.get? it = some o ∧ o.cls = .type "bytearray_iterator" ∧ o.data = .fields #[.ref d, .int i 0]) ∧ h.get? d = some (baObj bs)
section
variable {prog : Program} {w : World} {A : Around} {E : Value → Shared → Prop} {s : Shared} {d it : Addr} {bs : List Int}
theorem bai_typeIs {i : Nat} (h : IsBaIter s.heap it d bs i) : s.TypeIs (.ref it) "bytearray_iterator" := let ⟨⟨o, ho, hc, _⟩, _⟩ := h; ⟨o, ho, hc⟩
theorem pyIter_ba {Q : Value → Shared → Prop} (ho : s.heap.get? d = some (baObj bs)) (hQ : Q (.ref s.heap.objs.size) { s with heap := s.heap.push { cls := .type "bytearray_iterator", data := .fields #[.ref d, .int 0 0] } }) : wpAny (model prog w) A (pyIter (.ref d)) Q E s := by
  refine wpAny_pyIter_slot ⟨_, ho, rfl⟩ FX.slot_ba_iter (wpAny_call_entry FX.slot_ba_iter ⟨_, ho, rfl⟩ FX.entry_ba_iter ?_ (FX.args_ba_iter _))
  show wpAny _ _ (do ret (← newFields "bytearray_iterator" [.ref d, rawInt 0])) _ _ s
  exact wpAny_bind (wpAny_newObj_type (wpAny_pure ⟨_, rfl, "bytearray_iterator", _, ⟨_, Heap.get?_push_size _ rfl, rfl⟩, FX.slot_bai_next.lookup, hQ⟩))
theorem pyIter_bai {i : Nat} {Q : Value → Shared → Prop} (hit : IsBaIter s.heap it d bs i) (h : Q (.ref it) s) : wpAny (model prog w) A (pyIter (.ref it)) Q E s := by
  refine wpAny_pyIter_slot (bai_typeIs hit) FX.slot_bai_self (wpAny_call_entry FX.slot_bai_self (bai_typeIs hit) FX.entry_bai_self ?_ (FX.args_bai_self _))
  show wpAny _ _ (ret (.ref it)) _ _ s
  exact wpAny_pure ⟨_, rfl, "bytearray_iterator", _, bai_typeIs hit, FX.slot_bai_next.lookup, h⟩
theorem next_bai {i : Nat} {c : UInt8} {Q : Option Value → Shared → Prop} (hit : IsBaIter s.heap it d bs i) (hx : (byteArr bs)[i]? = some c)
    (hQ : ∀ h', IsBaIter h' it d bs (i + 1) → Heap.SameBut it s.heap h' → Q (some (.int (c.toNat : Int) s.toks)) { s with heap := h', toks := s.toks + 1 }) : wpAny (model prog w) A (pyNext (.ref it)) Q E s := by
  obtain ⟨⟨o, ho, hc, hd⟩, hb⟩ := id hit
  have hne : it ≠ d := fun e => by rw [e, hb] at ho; cases ho; cases hd
  unfold pyNext
  refine wpAny_bind (wpAny_attempt (wpAny_callSpecial?_slot (name := PySem.Str.ofString "__next__") (bai_typeIs hit) FX.slot_bai_next
    (wpAny_call_entry FX.slot_bai_next (bai_typeIs hit) FX.entry_bai_next ?_ (FX.args_bai_next _))))
  show wpAny _ _ (field (.ref it) 0 >>= _) _ _ s
  refine wpAny_bind (wpAny_field ho hd (x := .ref d) rfl ?_)
  dsimp only
  refine wpAny_bind (wpAny_load hb ?_)
  dsimp only
  refine wpAny_bind (m := field (.ref it) 1) (wpAny_field ho hd (x := .int i 0) rfl ?_)
  dsimp only
  simp only [Int.toNat_natCast, hx]
  refine wpAny_bind (wpAny_setField ho hd (by simp) (wpAny_bind (wpAny_mkInt (wpAny_pure ⟨_, rfl, wpAny_pure (hQ _ ?_ (Heap.SameBut.update ..))⟩))))
  refine ⟨⟨_, Heap.get?_update_self _ ho (Obj.isFreed_of_fields (Obj.data_mapFields hd _)), (Obj.cls_mapFields ..).trans hc, by
    rw [Obj.data_mapFields hd]; simp [rawInt]⟩, ?_⟩
  exact (Heap.get?_update_other _ _ hne).trans hb
theorem end_bai {i : Nat} {Q : Option Value → Shared → Prop} (hh : A.handled = none) (hit : IsBaIter s.heap it d bs i) (hx : (byteArr bs)[i]? = none)
    (hQ : ∀ h', Heap.ExtBut it s.heap h' → Q none { s with heap := h' }) : wpAny (model prog w) A (pyNext (.ref it)) Q E s := by
  obtain ⟨⟨o, ho, hc, hd⟩, hb⟩ := id hit
  unfold pyNext
  refine wpAny_bind (wpAny_attempt (wpAny_callSpecial?_slot (name := PySem.Str.ofString "__next__") (bai_typeIs hit) FX.slot_bai_next
    (wpAny_call_entry FX.slot_bai_next (bai_typeIs hit) FX.entry_bai_next ?_ (FX.args_bai_next _))))
  show wpAny _ _ (field (.ref it) 0 >>= _) _ _ s
  refine wpAny_bind (wpAny_field ho hd (x := .ref d) rfl ?_)
  dsimp only
  refine wpAny_bind (wpAny_load hb ?_)
  dsimp only
  refine wpAny_bind (m := field (.ref it) 1) (wpAny_field ho hd (x := .int i 0) rfl ?_)
  dsimp only
  simp only [Int.toNat_natCast, hx]
  refine wpAny_bind (wpAny_rule (wpAny_bind (wpAny_setField ho hd (by simp) ?_)))
  refine wpAny_bind (wpAny_letGo ?_)
  show wpAny _ _ (newExc (.type "StopIteration") [] >>= _) _ _ _
  refine wpAny_bind ?_
  simp only [newExc, newTuple]
  refine wpAny_bind (wpAny_newObj_type ?_ (by size_fits))
  refine wpAny_bind (m := firstArgMember _ _) (wpAny_of_eq (a := Value.none) (by first | rfl | (simp only [firstArgMember]; rfl)) ?_)
  refine wpAny_newObj_type ?_ (by size_fits)
  simp only [raiseNew]
  refine wpAny_bind (wpAny_handled ?_)
  rw [show A.in1.handled = none from hh]
  refine wpAny_bind (wpAny_pure (wpAny_throw ?_))
  refine wpAny_bind (wpAny_isInstance (T := "StopIteration") (b := true) ⟨_, Heap.get?_push_size _ rfl, rfl⟩ isSubtype_stop ?_)
  exact wpAny_pure (hQ _ (((Heap.SameBut.update ..).extBut.push _).push _))
end
theorem ba_walks {prog : Program} {w : World} {A : Around} (hh : A.handled = none) (I d : Addr) (bs : List Int) :
    Walks prog w A I [I, d] [I] bs.length (fun i v => ∃ c u, (byteArr bs)[i]? = some c ∧ v = .int (c.toNat : Int) u) (fun i h => IsBaIter h I d bs i) where
  sub := fun _ hb => by rw [List.mem_singleton.mp hb]; exact .head _
  frame := fun _ _ _ st hk => let ⟨⟨o, ho, r⟩, hb⟩ := st; ⟨⟨o, hk I (.head _) o ho, r⟩, hk d (.tail _ (.head _)) _ hb⟩
  item := fun i s Q E hi st hQ => by
    have hi' : i < (byteArr bs).size := by rw [byteArr_size]; exact hi
    refine next_bai st (c := (byteArr bs)[i]) (by simp [hi']) fun h' hit' hs' => ?_
    exact hQ _ h' (s.toks + 1) ⟨_, _, by simp [hi'], rfl⟩ hit' fun b o hb e => hs'.extBut b o (fun h => hb (by simp [h])) e
  done := fun s Q E st hQ => end_bai hh st (by rw [Array.getElem?_eq_none]; rw [byteArr_size]; exact Nat.le_refl _) fun h' he' => hQ h' s.toks fun b o hb e => he' b o (fun h => hb (by simp [h])) e
  self := fun _ _ _ _ st hQ => pyIter_bai st hQ
end Own
end
section
open PySem PySem.W PyProof.Rows PySem.Calls PySem.Spec Builtin
namespace Own
section
variable {prog : Program} {w : World} {A : Around} {E : Value → Shared → Prop} {s : Shared} {d : Addr} {bs : List Int}
theorem hint_ba {Q : Bool → Shared → Prop} (ho : s.heap.get? d = some (baObj bs)) (h : Q false s) : wpAny (model prog w) A (Builtin.List.listLengthHint (.ref d)) Q E s := by
  unfold Builtin.List.listLengthHint
  refine wpAny_bind (wpAny_specialOf ⟨_, ho, rfl⟩ FX.slot_ba_len.lookup ?_)
  generalize hid : ("bytearray.__len__" : String) = id0
  wp_delta
  rw [show splitId id0 = some ("bytearray", "__len__") from by subst hid; decide +kernel]
  subst hid
  refine wpAny_bind (wpAny_isInstance (T := "bytearray") (b := true) ⟨_, ho, rfl⟩ (by rw [isSubtype_type]; kernel_rfl) ?_)
  refine wpAny_ite_split (fun hab => absurd hab (by decide)) (fun _ => ?_)
  refine wpAny_ite_split (fun _ => ?_) (fun hab => absurd (by decide +kernel) hab)
  refine wpAny_bind (wpAny_typeOf (T := "bytearray") ⟨_, ho, rfl⟩ ?_)
  exact wpAny_pure h
theorem extend_ba_into {R : Result → Shared → Prop} (hh : A.handled = none) (hb : s.heap.get? d = some (baObj bs)) (hlen : bs.length ≤ 1000000) (S : Addr) (res : Value) (c₀ : Nat) (hS : s.heap.get? S = some { cls := .type "list", data := .seq #[] c₀ })
    (hR : ∀ h' tk acc' c', (∀ b o, b ≠ S → s.heap.get? b = some o → h'.get? b = some o) → h'.get? S = some { cls := .type "list", dict := none, data := .seq acc' c', slots := #[] } →
      ItemsOf (fun i v => ∃ c u, (byteArr bs)[i]? = some c ∧ v = .int (c.toNat : Int) u) acc' bs.length → R (.ok (.ret res)) { s with heap := h', toks := tk }) :
    wpAny (model prog w) A.in1 (Builtin.List.listExtendWith (.ref S) (.ref d) res)
      (fun fin s' => match fin with | .done f => R (.ok f) s' | .again c' => c'.quiet = true ∧ codeAny (model prog w) A c' R s') (fun e s' => R (.error e) s') s := by
  have hSd : S ≠ d := fun e => by rw [e, hb] at hS; simp at hS
  have hSlt : S < s.heap.objs.size := Heap.lt_size hS
  have hSI : S ≠ s.heap.objs.size := Nat.ne_of_lt hSlt
  have hSf : S ∉ [s.heap.objs.size, d] := fun hm => by
    rcases List.mem_cons.mp hm with e | hm
    · exact hSI e
    · exact hSd (List.mem_singleton.mp hm)
  have W := (ba_walks (prog := prog) (w := w) (A := A.in1) hh s.heap.objs.size d bs).toS
  unfold Builtin.List.listExtendWith
  refine wpAny_bind (wpAny_typeOf (T := "bytearray") ⟨_, hb, rfl⟩ ?_)
  have h1 : Builtin.List.listSameRef (.ref S) (.ref d) = false := by simp [Builtin.List.listSameRef, hSd]
  have h2 : (Value.type "bytearray" == Value.type "list") = false := by decide
  have h3 : (Value.type "bytearray" == Value.type "tuple") = false := by decide
  simp only [h1, h2, h3, Bool.or_false, Bool.false_eq_true, if_false]
  refine wpAny_bind (pyIter_ba hb ?_)
  have hb1 := Heap.get?_push_of_some { cls := .type "bytearray_iterator", data := .fields #[.ref d, .int 0 0] } hb
  have hS1 := Heap.get?_push_of_some { cls := .type "bytearray_iterator", data := .fields #[.ref d, .int 0 0] } hS
  refine wpAny_bind (wpAny_holding (hint_ba hb1 ?_))
  refine wpAny_ite_split (fun hab => absurd hab (by decide +kernel)) (fun _ => wpAny_pure ⟨plainId_quiet F.plain_extend_loop _, ?_⟩)
  refine codeAny_extend_loopS W (by rw [sizeLine_eq]; omega) S hSf res bs.length 0 _ #[] c₀ rfl (Nat.zero_le _) ⟨⟨_, Heap.get?_push_size _ rfl, rfl, rfl⟩, hb1⟩ hS1 (ItemsOf.nil _) fun s' acc' c' hm hS' hacc => ?_
  rw [Moved.eq_with hm]
  refine hR s'.heap s'.toks acc' c' (fun b o hb e => hm.heap b o (fun hmem => ?_) (Heap.get?_push_of_some _ e)) hS' hacc
  rcases List.mem_cons.mp hmem with e' | hmem
  · exact hb e'
  · exact absurd (Heap.lt_size e) (by rw [List.mem_singleton.mp hmem]; exact Nat.lt_irrefl _)
theorem list_init_ba {R : Result → Shared → Prop} (hh : A.handled = none) (hb : s.heap.get? d = some (baObj bs)) (hlen : bs.length ≤ 1000000) (S : Addr) (hS : s.heap.get? S = some { cls := .type "list", data := .seq #[] })
    (hR : ∀ h' tk acc' c', (∀ b o, b ≠ S → s.heap.get? b = some o → h'.get? b = some o) → h'.get? S = some { cls := .type "list", dict := none, data := .seq acc' c', slots := #[] } →
      ItemsOf (fun i v => ∃ c u, (byteArr bs)[i]? = some c ∧ v = .int (c.toNat : Int) u) acc' bs.length → R (.ok (.ret .none)) { s with heap := h', toks := tk }) :
    wpAny (model prog w) A.in1 (Builtin.«list.__init__» ⟨[.ref S, .ref d], []⟩)
      (fun fin s' => match fin with | .done f => R (.ok f) s' | .again c' => c'.quiet = true ∧ codeAny (model prog w) A c' R s') (fun e s' => R (.error e) s') s := by
  have hSd : S ≠ d := fun e => by rw [e, hb] at hS; simp at hS
  show wpAny _ _ (do let old ← Builtin.List.listItems (.ref S); Builtin.List.listUpdate (.ref S) (fun _ => #[]); letGo old.toList.reverse; Builtin.List.listExtendWith (.ref S) (.ref d) .none) _ _ s
  refine wpAny_bind ?_
  unfold Builtin.List.listItems
  refine wpAny_bind (wpAny_seqItems hS rfl (wpAny_pure ?_))
  show wpAny _ _ (updateSeq S (fun _ => #[]) >>= fun _ => letGo (#[] : Array Value).toList.reverse >>= fun _ => Builtin.List.listExtendWith (.ref S) (.ref d) .none) _ _ s
  refine wpAny_bind (wpAny_updateSeq hS rfl ?_)
  have hS₂ := Heap.get?_update_self (Obj.mapSeq (fun _ => (#[] : Array Value))) hS rfl
  have oth : ∀ b o, b ≠ S → s.heap.get? b = some o → (s.heap.update S (Obj.mapSeq (fun _ => (#[] : Array Value)))).get? b = some o :=
    fun b o hb e => (Heap.get?_update_other _ _ (Ne.symm hb)).trans e
  refine wpAny_bind (wpAny_letGo ?_)
  refine extend_ba_into hh (oth d _ (Ne.symm hSd) hb) hlen S .none _ hS₂ fun h' tk acc' c' hk hS' hacc => ?_
  exact hR h' tk acc' c' (fun b o hb e => hk b o hb (oth b o hb e)) hS' hacc
theorem list_ba {Q : Value → Shared → Prop} (hh : A.handled = none) (hb : s.heap.get? d = some (baObj bs)) (hlen : bs.length ≤ 1000000)
    (hQ : ∀ h' tk acc' c', (∀ b o, s.heap.get? b = some o → h'.get? b = some o) → h'.get? s.heap.objs.size = some { cls := .type "list", dict := none, data := .seq acc' c', slots := #[] } →
      ItemsOf (fun i v => ∃ c u, (byteArr bs)[i]? = some c ∧ v = .int (c.toNat : Int) u) acc' bs.length → Q (.ref s.heap.objs.size) { s with heap := h', toks := tk }) :
    wpAny (model prog w) A (call (.type "list") [.ref d]) Q E s := by
  refine callType_codes (Q₁ := fun obj s₁ => obj = .ref s.heap.objs.size ∧ s₁ = { s with heap := s.heap.push { cls := .type "list", data := .seq #[] } }) F.called_list (F.typeCall_list_1 _) F.entry_list_init
    (code_list_new _ ⟨rfl, rfl⟩) fun obj s₁ h₁ => ?_
  obtain ⟨rfl, rfl⟩ := h₁
  have hS : (s.heap.push { cls := .type "list", data := .seq #[] }).get? s.heap.objs.size = some { cls := .type "list", data := .seq #[] } := Heap.get?_push_size _ rfl
  refine ⟨⟨_, hS, rfl⟩, F.args_list_init_2 _ _, list_init_ba (A := A.in1) hh (Heap.get?_push_of_some _ hb) hlen _ hS fun h' tk acc' c' hk hS' hacc => ?_⟩
  exact ⟨rfl, hQ h' tk acc' c' (fun b o e => hk b o (Nat.ne_of_lt (Heap.lt_size e)) (Heap.get?_push_of_some _ e)) hS' hacc⟩
end
theorem ints_of_items : ∀ (bs : List Int) (acc : List Value), (∀ x ∈ bs, (0 : Int) ≤ x ∧ x < 256) → acc.length = bs.length → (∀ (j : Nat) (v : Value), acc[j]? = some v → ∃ (c : UInt8) (u : Tok), (bs.map fun n => n.toNat.toUInt8)[j]? = some c ∧ v = Value.int (c.toNat : Int) u) → IntsAre acc bs
  | [], [], _, _, _ => .nil
  | [], _ :: _, _, h, _ => by cases h
  | _ :: _, [], _, h, _ => by cases h
  | x :: bs, v :: acc, hin, hl, h => by
    obtain ⟨c, u, hc, rfl⟩ := h 0 v rfl
    have hx := hin x (.head _)
    have e : (c.toNat : Int) = x := by
      simp only [List.map_cons, List.getElem?_cons_zero, Option.some.injEq] at hc
      subst hc
      have h1 : x.toNat < 256 := by omega
      have h2 : (x.toNat.toUInt8).toNat = x.toNat := by simp [Nat.toUInt8, UInt8.toNat_ofNat']; omega
      omega
    rw [e]
    exact .cons _ _ (ints_of_items bs acc (fun y hy => hin y (.tail _ hy)) (by simpa using hl) fun j v hv => by simpa using h (j + 1) v (by simpa using hv))
section
variable {prog : Program} {w : World} {A : Around} {E : Value → Shared → Prop} {s : Shared} {d : Addr} {bs : List Int}
/-- list(a bytearray of the ledger) -/
theorem list_baN {g : Heap} {L : Addr} {m : PySem.Str → Option Value} {news : Led} {Q : Value → Shared → Prop} (hh : A.handled = none) (Fr' : Fr g L s.heap m) (N : News g L s.heap news) (hm : (d, baObj bs) ∈ news) (hlen : bs.length ≤ 1000000) (hin : ∀ x ∈ bs, 0 ≤ x ∧ x < 256)
    (h : ∀ D ws h' c' tk, Fr g L h' m → News g L h' ((D, listOf (List.toArray ws) c') :: news) → (∀ p ∈ news, p.1 < D) → IntsAre ws bs → Q (.ref D) { s with heap := h', toks := tk }) : wpAny (model prog w) A (call (.type "list") [.ref d]) Q E s := by
  refine list_ba hh (N _ hm).1 hlen fun h' tk acc' c' hk hS hacc => ?_
  refine h _ acc'.toList h' c' tk (keep_fr Fr' hk) (news_fresh Fr' N hk (by simpa using hS)) (fun p hp => Heap.lt_size (N p hp).1) ?_
  refine ints_of_items bs _ hin (by rw [Array.length_toList]; exact hacc.1) fun j v hv => ?_
  obtain ⟨c, u, hc, rfl⟩ := hacc.2 j v (by simpa using hv)
  exact ⟨c, u, by simpa [byteArr] using hc, rfl⟩
end
end Own
end
section
open PySem PySem.W PyProof.Rows PySem.Calls
namespace Own
theorem isList_inj {h : Heap} {a : Addr} {x y : Array Value} (h1 : h.IsList a x) (h2 : h.IsList a y) : x = y := by
  obtain ⟨o, ho, _, n, hd⟩ := h1
  obtain ⟨o', ho', _, n', hd'⟩ := h2
  rw [ho] at ho'
  obtain rfl := Option.some.inj ho'
  rw [hd] at hd'
  injection hd' with e1 e2
theorem runAt_inj {h : Heap} {v : Value} {r r' : RunD} (h1 : RunAt h v r) (h2 : RunAt h v r') : r.1 = r'.1 := by
  obtain ⟨a, o, vs, t, rfl, hl, _, _⟩ := h1
  obtain ⟨a', o', vs', t', e, hl', _, _⟩ := h2
  injection e with e
  subst e
  have := isList_inj hl hl'
  simp at this
  exact this.1.1
theorem runsAt_zip {h : Heap} {ds : List Value} {rs : List RunD} (x : RunsAt h ds rs) : (∀ p ∈ ds.zip rs, RunAt h p.1 p.2) ∧ ∀ v ∈ ds, ∃ r, (v, r) ∈ ds.zip rs := by
  induction x with
  | nil => exact ⟨fun p hp => by simp at hp, fun v hv => by simp at hv⟩
  | @cons v r vs rs h1 _ ih =>
    refine ⟨fun p hp => ?_, fun u hu => ?_⟩
    · rcases List.mem_cons.mp hp with rfl | hp
      · exact h1
      · exact ih.1 p hp
    · rcases List.mem_cons.mp hu with rfl | hu
      · exact ⟨r, .head _⟩
      · obtain ⟨r', hr⟩ := ih.2 u hu
        exact ⟨r', .tail _ hr⟩
def HeadF (ds : List Value) (rs : List RunD) (v y : Value) : Prop := ∃ r t, (v, r) ∈ ds.zip rs ∧ y = .int r.1 t
theorem heads_ints {h : Heap} {ds₀ : List Value} {rs₀ : List RunD} (hz : ∀ p ∈ ds₀.zip rs₀, RunAt h p.1 p.2) : ∀ {ds : List Value} {rs : List RunD} {ys : List Value}, RunsAt h ds rs → Paired (HeadF ds₀ rs₀) ds ys → IntsAre ys (rs.map (·.1))
  | _, _, _, .nil, .nil => .nil
  | _, _, _, .cons h1 h2, .cons hf hp => by
    obtain ⟨r, t, hm, rfl⟩ := hf
    have := runAt_inj (hz _ hm) h1
    dsimp only at this
    rw [List.map_cons, ← this]
    exact .cons _ _ (heads_ints hz h2 hp)
def HeadsAt (ds : List Value) (rs : List RunD) (Q : Value → Shared → Prop) (xv : Value) (s₁ : Shared) : Prop := ∃ DU, xv = .ref DU ∧ s₁.heap.IsList DU ds.toArray ∧ ds.length ≤ 100 ∧ RunsAt s₁.heap ds rs ∧
      (∀ D h' tk ys, s₁.heap.get? D = none → h'.IsList D (List.toArray ys) → IntsAre ys (rs.map (·.1)) → (∀ b o, s₁.heap.get? b = some o → h'.get? b = some o) → Q (.ref D) { s₁ with heap := h', toks := tk })
section
variable {prog : Program} {w : World} {A : Around} {E : Value → Shared → Prop} {s : Shared} {env : Env}
theorem heads_comp {iter : Expr} {x : Str} {px p1 p2 p3 pos : Pos} {kd : Nat} {scope : Scope} {Q : Value → Shared → Prop} {ds : List Value} {rs : List RunD} (hh : A.handled = none)
    (hfree : ∀ y ∈ scope.names, y.2 ≠ .free) (hcell : ∀ y ∈ scope.names, y.2 ≠ .cell) (hkind : scope.kind = .function)
    (hnames : ∀ y ∈ scope.names, y.2 = .local → scope.names.lookup y.1 = some .local) (hx : scope.names.lookup x = some .local) (hxd : (x == ("__debug__" : Str)) = false)
    (h : wpAny (model prog w) A (eval iter env) (HeadsAt ds rs Q) E s)
    (hs : ∀ x, foldedSetIterable iter env x = pure x := by intro _; rfl) :
    wpAny (model prog w) A (eval (.ListComp (.Subscript (.Name x p1) (.Constant (.int 0) kd p2) p3) [⟨.Name x px, iter, [], 0⟩] scope pos) env) Q E s := by
  refine wpAny_ListComp_map (fun _ => true) (HeadF ds rs) hh hfree hcell hkind hnames hx (wpAny_mono h (fun xv s₁ hz => ?_) fun _ _ e => e) hs
  obtain ⟨DU, rfl, hl, hsz, hr, hQ⟩ := hz
  obtain ⟨z1, z2⟩ := runsAt_zip hr
  refine ⟨DU, ds.toArray, rfl, hl, by rw [sizeLine_eq]; simp; omega, ?_, ?_, ?_⟩
  · intro C v s₂ m₂ E' _ _ _ _
    exact wpAny_pure ⟨rfl, _, _, rfl, fun _ _ e => e⟩
  · intro C v s₂ m₂ E' hv _ hns hm hk
    obtain ⟨r, hzr⟩ := z2 v (by simpa using hv)
    obtain ⟨a, o, vs, t, rfl, hla, _, _⟩ := z1 _ hzr
    have hla2 : s₂.heap.IsList a #[.int r.1 t, .ref o] := let ⟨ob, ho, q⟩ := hla; ⟨ob, hk _ _ ho, q⟩
    refine Subscript_ (wpAny_Name (wpAny_loadName_local hkind (by simp [compEnv, Env.kindOf, hx]) hns hm ?_) hxd)
    refine wpAny_Constant_int ?_
    refine tail_any hla2.typeIs slot_list_getitem.lookup (wpAny_getItem_list (k := 0) (x := .int r.1 t) hla2 (by decide) (by decide) rfl (And.intro ⟨r, t, hzr, rfl⟩ ⟨_, _, rfl, fun _ _ e => e⟩)) (by with_unfolding_all rfl)
  · intro D h' tk ys hD hl' hp hk
    have hi : IntsAre ys.toList (rs.map (·.1)) := heads_ints z1 hr (by rw [List.filter_eq_self.mpr (fun _ _ => rfl)] at hp; simpa using hp)
    exact hQ D h' tk ys.toList hD (by simpa using hl') hi hk
end
end Own
end
section
open PySem PySem.W PyProof.Rows
def PySem.W.Fast.tw14252403205568418279 : Unit := ()
def PySem.W.Fast.tw9920790960455322407 : Unit := ()
def PySem.W.Fast.tw4524571907787212107 : Unit := ()
def PySem.W.Fast.tw17782854796777646914 : Unit := ()
def PySem.W.Fast.tw13268697559958159089 : Unit := ()
def PySem.W.Fast.tw7868232508180366470 : Unit := ()
def PySem.W.Fast.tw8642426965096500191 : Unit := ()
def PySem.W.Fast.tw6793083624917390216 : Unit := ()
def PySem.W.Fast.tw6844117751798752174 : Unit := ()
def PySem.W.Fast.tw12176035075300741479 : Unit := ()
def PySem.W.Fast.tw5008141652924528059 : Unit := ()
def PySem.W.Fast.tw1540553148207274830 : Unit := ()
def PySem.W.Fast.tw6799754605246379682 : Unit := ()
def PySem.W.Fast.tw7532593591038804742 : Unit := ()
def PySem.W.Fast.tw9924613533978915402 : Unit := ()
def PySem.W.Fast.tw5010406418354560133 : Unit := ()
def PySem.W.Fast.tw13931807227952780211 : Unit := ()
def PySem.W.Fast.tw3582551215479641518 : Unit := ()
def PySem.W.Fast.tw1060569892244928956 : Unit := ()
def PySem.W.Fast.tw2344202980529468142 : Unit := ()
def PySem.W.Fast.tw2111023892589622016 : Unit := ()
def PySem.W.Fast.tw9646865848721034276 : Unit := ()
def PySem.W.Fast.tw6120870894094017330 : Unit := ()
def PySem.W.Fast.tw7173055749884799314 : Unit := ()
def PySem.W.Fast.tw8628027125140529963 : Unit := ()
def PySem.W.Fast.tw7103072946050079994 : Unit := ()
def PySem.W.Fast.tw6003002164135418236954 : Unit := ()
namespace Mine02
theorem PySem.W.holds_open : type_of% @Own.holdsR := @Own.holdsR
local macro_rules | `(tactic| o_head ($f $K $as $e)) => `(tactic| o_head (PySem.W.kmHook $K $as $e [268]))
open_top hd for PySem.Challenge.rw_im0109_02
end Mine02
end
open PySem PySem.W PyProof.Rows PySem.Calls Own
namespace Mine02
section
noncomputable abbrev LO : List Str := looseW hd.view_39 [Str.ofString "MODE_TO_MICRO_MODE_MAPPING", Str.ofString "MODE_MAPPING", Str.ofString "CHAR_COUNT_INDICATOR_LENGTH",
      Str.ofString "write_segment", Str.ofString "make_segment", Str.ofString "Segments", Str.ofString "itemgetter",
      Str.ofString "_Segment", Str.ofString "Buffer"]
abbrev CX (w : World) (mg mb : Str → Option Value) (bm : Addr) (ob : Obj) (A₀ : Around) (base : Heap) (outer : List Env) (h₀ : Heap) : Prop := Own.Cx (hd.heap_39 w.params) hd.view_39 LO mg mb bm ob A₀ base outer h₀
abbrev SP (w : World) (mg mb : Str → Option Value) (bm : Addr) (ob : Obj) (kd ku : Nat) (f : Addr) (pos : List Value) (kw : List (Str × Value)) (sub : Led) (P : Value → Led → Prop) : Prop :=
  Own.Spec PySem.Challenge.rw_im0109_02.row.prog w (hd.heap_39 w.params) hd.view_39 LO mg mb bm ob kd ku f pos kw sub P
abbrev SPR (w : World) (mg mb : Str → Option Value) (bm : Addr) (ob : Obj) (kd ku : Nat) (f : Addr) (pos : List Value) (kw : List (Str × Value)) (sub : Led) (P : Value → Led → Prop) : Prop :=
  Own.SpecR PySem.Challenge.rw_im0109_02.row.prog w (hd.heap_39 w.params) hd.view_39 LO mg mb bm ob kd ku f pos kw sub P
variable {w : World} {mg mb : Str → Option Value} {bm : Addr} {ob : Obj}
end
section
variable {w : World} {prog : Program} {A : Around} {E : Value → Shared → Prop} {s : Shared} {h : Heap}
def cc24 : List (Int × Value) := [(1, .ref 25), (2, .ref 26), (4, .ref 27), (8, .ref 28), (13, .ref 29)]
theorem cc24_of (X : (hd.heap_39 w.params).In h) : h.DictOf (intKind prog w) 24 cc24 := by
  have hl := X 24 _ rfl
  refine ⟨_, _, 5, hl, ⟨rfl, rfl, rfl⟩, rfl, ?_, ?_, by decide⟩
  · intro e he
    simp only [List.mem_toArray, List.mem_cons, List.not_mem_nil, or_false] at he
    rcases he with rfl | rfl | rfl | rfl | rfl <;> exact ⟨_, intKind_is prog w _ _, rfl⟩
  · exact .cons (intKind_is prog w _ _) rfl (.cons (intKind_is prog w _ _) rfl (.cons (intKind_is prog w _ _) rfl (.cons (intKind_is prog w _ _) rfl (.cons (intKind_is prog w _ _) rfl (.nil)))))
def cc27 : List (Int × Value) := [(1, .int 8 273), (2, .int 16 274), (3, .int 16 275), (-1, .int 4 276), (0, .int 5 277)]
theorem cc27_of (X : (hd.heap_39 w.params).In h) : h.DictOf (intKind prog w) 27 cc27 := by
  have hl := X 27 _ rfl
  refine ⟨_, _, 5, hl, ⟨rfl, rfl, rfl⟩, rfl, ?_, ?_, by decide⟩
  · intro e he
    simp only [List.mem_toArray, List.mem_cons, List.not_mem_nil, or_false] at he
    rcases he with rfl | rfl | rfl | rfl | rfl <;> exact ⟨_, intKind_is prog w _ _, rfl⟩
  · exact .cons (intKind_is prog w _ _) rfl (.cons (intKind_is prog w _ _) rfl (.cons (intKind_is prog w _ _) rfl (.cons (intKind_is prog w _ _) rfl (.cons (intKind_is prog w _ _) rfl (.nil)))))
def cc28 : List (Int × Value) := [(1, .int 8 283), (2, .int 10 284), (3, .int 12 285), (-1, .int 3 286), (0, .int 4 287)]
theorem cc28_of (X : (hd.heap_39 w.params).In h) : h.DictOf (intKind prog w) 28 cc28 := by
  have hl := X 28 _ rfl
  refine ⟨_, _, 5, hl, ⟨rfl, rfl, rfl⟩, rfl, ?_, ?_, by decide⟩
  · intro e he
    simp only [List.mem_toArray, List.mem_cons, List.not_mem_nil, or_false] at he
    rcases he with rfl | rfl | rfl | rfl | rfl <;> exact ⟨_, intKind_is prog w _ _, rfl⟩
  · exact .cons (intKind_is prog w _ _) rfl (.cons (intKind_is prog w _ _) rfl (.cons (intKind_is prog w _ _) rfl (.cons (intKind_is prog w _ _) rfl (.cons (intKind_is prog w _ _) rfl (.nil)))))
def cc29 : List (Int × Value) := [(1, .int 8 293), (2, .int 10 294), (3, .int 12 295)]
theorem cc29_of (X : (hd.heap_39 w.params).In h) : h.DictOf (intKind prog w) 29 cc29 := by
  have hl := X 29 _ rfl
  refine ⟨_, _, 3, hl, ⟨rfl, rfl, rfl⟩, rfl, ?_, ?_, by decide⟩
  · intro e he
    simp only [List.mem_toArray, List.mem_cons, List.not_mem_nil, or_false] at he
    rcases he with rfl | rfl | rfl <;> exact ⟨_, intKind_is prog w _ _, rfl⟩
  · exact .cons (intKind_is prog w _ _) rfl (.cons (intKind_is prog w _ _) rfl (.cons (intKind_is prog w _ _) rfl (.nil)))
def ccd (m : Int) : Addr := if m = 4 then 27 else if m = 8 then 28 else 29
def wid (m vr : Int) : Nat := if m = 4 then (if vr = 1 then 8 else 16) else (if vr = 1 then 8 else if vr = 2 then 10 else 12)
theorem wid_le (m vr : Int) : wid m vr ≤ 16 := by unfold wid; (repeat' split) <;> decide
theorem cc_outer {m : Int} {t : Tok} {value slice : Expr} {Q : Value → Shared → Prop} (X : (hd.heap_39 w.params).In s.heap) (hm : m = 4 ∨ m = 8 ∨ m = 13) (h : ∀ tk, Q (.ref (ccd m)) { s with toks := tk })
    (hs : subscripted slice false (.ref 24) (.int m t) = operate [.ref 24, .int m t] (getItem (.ref 24) (.int m t)) := by with_unfolding_all rfl) : wpAny (model prog w) A (subscriptTail value slice (.ref 24) (.int m t)) Q E s := by
  refine tail_any (T := "dict") ⟨_, X 24 _ rfl, rfl⟩ slot_dict_getitem.lookup (wpAny_getItem_of (intKind_is prog w m t) (cc24_of X).mapOf ?_ (h _)) hs
  rcases hm with rfl | rfl | rfl <;> rfl
theorem cc_inner {m vr : Int} {t : Tok} {value slice : Expr} {Q : Value → Shared → Prop} (X : (hd.heap_39 w.params).In s.heap) (hm : m = 4 ∨ m = 8 ∨ m = 13) (hv : vr = 1 ∨ vr = 2 ∨ vr = 3) (h : ∀ t' tk, Q (.int (wid m vr : Nat) t') { s with toks := tk })
    (hs : subscripted slice false (.ref (ccd m)) (.int vr t) = operate [.ref (ccd m), .int vr t] (getItem (.ref (ccd m)) (.int vr t)) := by with_unfolding_all rfl) : wpAny (model prog w) A (subscriptTail value slice (.ref (ccd m)) (.int vr t)) Q E s := by
  rcases hm with rfl | rfl | rfl
  · refine tail_any (T := "dict") ⟨_, X 27 _ rfl, rfl⟩ slot_dict_getitem.lookup ?_ hs
    rcases hv with rfl | rfl | rfl
    · exact wpAny_getItem_of (d := 27) (v := .int 8 273) (intKind_is prog w 1 t) (cc27_of X).mapOf rfl (h _ _)
    · exact wpAny_getItem_of (d := 27) (v := .int 16 274) (intKind_is prog w 2 t) (cc27_of X).mapOf rfl (h _ _)
    · exact wpAny_getItem_of (d := 27) (v := .int 16 275) (intKind_is prog w 3 t) (cc27_of X).mapOf rfl (h _ _)
  · refine tail_any (T := "dict") ⟨_, X 28 _ rfl, rfl⟩ slot_dict_getitem.lookup ?_ hs
    rcases hv with rfl | rfl | rfl
    · exact wpAny_getItem_of (d := 28) (v := .int 8 283) (intKind_is prog w 1 t) (cc28_of X).mapOf rfl (h _ _)
    · exact wpAny_getItem_of (d := 28) (v := .int 10 284) (intKind_is prog w 2 t) (cc28_of X).mapOf rfl (h _ _)
    · exact wpAny_getItem_of (d := 28) (v := .int 12 285) (intKind_is prog w 3 t) (cc28_of X).mapOf rfl (h _ _)
  · refine tail_any (T := "dict") ⟨_, X 29 _ rfl, rfl⟩ slot_dict_getitem.lookup ?_ hs
    rcases hv with rfl | rfl | rfl
    · exact wpAny_getItem_of (d := 29) (v := .int 8 293) (intKind_is prog w 1 t) (cc29_of X).mapOf rfl (h _ _)
    · exact wpAny_getItem_of (d := 29) (v := .int 10 294) (intKind_is prog w 2 t) (cc29_of X).mapOf rfl (h _ _)
    · exact wpAny_getItem_of (d := 29) (v := .int 12 295) (intKind_is prog w 3 t) (cc29_of X).mapOf rfl (h _ _)
end
section
variable {w : World} {mg mb : Str → Option Value} {bm : Addr} {ob : Obj}
def fnBody (K : Frag) (f : Addr) : Option (List Stmt × Scope × Str × Value) := match K.lookup f with
  | some ⟨_, _, .func fd, _⟩ => match fd.body with
    | .stmts b => some (b, fd.scope, fd.qualname, fd.code)
    | _ => none
  | _ => none
/-- the body of the loop that stands as statement i -/
def loopBody (i : Nat) (b : List Stmt) : List Stmt := match b.drop i with
  | .For _ _ bb _ _ :: _ => bb
  | .While _ bb _ _ :: _ => bb
  | _ => []
/-- what a piece of a function's text does -/
def Walk (w : World) (mg mb : Str → Option Value) (bm : Addr) (ob : Obj) (f : Addr) (pick : List Stmt → List Stmt) (Hb : Heap → Heap → Prop) (Pre : (Str → Option Value) → Led → Prop) (Q : Heap → Addr → Drawn → OsState → Flow → Shared → Prop) : Prop :=
  ∀ (b : List Stmt) (sc : Scope) (q : Str) (cd : Value), fnBody (hd.heap_39 w.params) f = some (b, sc, q, cd) →
  ∀ (dp un : Nat) (gd : Option (List Code)) (fa L : Addr) (outer : List Env) (A₀ : Around) (base g h₁ : Heap) (gn : Array GenState) (d : Drawn) (tk : Nat) (os : OsState) (m : Str → Option Value) (news : Led),
    CX w mg mb bm ob A₀ base outer g → Hb base g → Fr g L h₁ m → News g L h₁ news → Pre m news → AllBare gn → dp + 12 < recursionLimit → un + 150 < cLine →
    wpR (model PySem.Challenge.rw_im0109_02.row.prog w) (ktrTop dp un gd q sc L fa cd [] outer) (execs (pick b) (envX q sc L fa cd []))
      (Q g L d os) (fun _ _ => False) ⟨h₁, gn, d, tk, os⟩
theorem walk_of {f : Addr} {pick : List Stmt → List Stmt} {Hb : Heap → Heap → Prop} {Pre : (Str → Option Value) → Led → Prop} {Q : Heap → Addr → Drawn → OsState → Flow → Shared → Prop} {name qual : Str} {params : Arguments} {body : List Stmt} {scope : Scope} {dV kV doc pm cdv ct oc : Value} {an od : Option Addr} {osl : Array (Option Value)}
    (ho : (hd.heap_39 w.params).lookup f = some ⟨oc, od, .func (fnX name qual params body scope [] dV kV doc pm an cdv ct), osl⟩)
    (hb : ∀ (dp un : Nat) (gd : Option (List Code)) (fa L : Addr) (outer : List Env) (A₀ : Around) (base g h₁ : Heap) (gn : Array GenState) (d : Drawn) (tk : Nat) (os : OsState) (m : Str → Option Value) (news : Led),
      CX w mg mb bm ob A₀ base outer g → Hb base g → Fr g L h₁ m → News g L h₁ news → Pre m news → AllBare gn → dp + 12 < recursionLimit → un + 150 < cLine →
      wpR (model PySem.Challenge.rw_im0109_02.row.prog w) (ktrTop dp un gd qual scope L fa cdv [] outer) (execs (pick body) (envX qual scope L fa cdv []))
        (Q g L d os) (fun _ _ => False) ⟨h₁, gn, d, tk, os⟩) :
    Walk w mg mb bm ob f pick Hb Pre Q := by
  intro b sc q cd hbody
  have : fnBody (hd.heap_39 w.params) f = some (body, scope, qual, cdv) := by unfold fnBody; rw [ho]
  rw [this] at hbody
  injection hbody with e
  injection e with e1 e
  injection e with e2 e
  injection e with e3 e4
  subst e1; subst e2; subst e3; subst e4
  exact hb
end
section
local macro_rules | `(tactic| walk_at "my_enter") => `(tactic| (
  k_dflt (refine' Own.spec_of ?ho ?hcd ?hbind ?hloc ?hcell ?hb ?hco ?hgen ?hk ?hkd; (case ho => k_is); (case hcd => k_is); (case hbind => exact (fun s _ => BindsTo.of_eq rfl)); (case hloc => exact (locs rfl)); (case hcell => decide); (case hco => exact rfl); (case hgen => exact rfl); (case hk => exact rfl); (case hkd => decide))))
local macro_rules | `(tactic| walk_at "my_enterR") => `(tactic| (
  k_dflt (refine' Own.specR_of ?ho ?hcd ?hbind ?hloc ?hcell ?hb ?hco ?hgen ?hk ?hkd; (case ho => k_is); (case hcd => k_is); (case hbind => exact (fun s _ => BindsTo.of_eq rfl)); (case hloc => exact (locs rfl)); (case hcell => decide); (case hco => exact rfl); (case hgen => exact rfl); (case hk => exact rfl); (case hkd => decide))))
local macro_rules | `(tactic| walk_at "my_enterRC") => `(tactic| (
  k_dflt (refine' Own.specRC_of ?ho ?hcd ?hbind ?hkind ?hnd ?hb ?hco ?hgen ?hk ?hkd; (case ho => k_is); (case hcd => k_is); (case hbind => exact (fun s _ => BindsTo.of_eq rfl)); (case hkind => exact rfl); (case hnd => decide +kernel); (case hco => exact rfl); (case hgen => exact rfl); (case hk => exact rfl); (case hkd => decide))))
local macro_rules | `(tactic| walk_at "my_start") => `(tactic| (w_on; delta SP; k_fill; walk_at "my_enter"))
local macro_rules | `(tactic| walk_at "my_startR") => `(tactic| (w_on; delta SPR; k_fill; walk_at "my_enterR"))
local macro_rules | `(tactic| walk_at "my_startRC") => `(tactic| (w_on; delta SPR; k_fill; walk_at "my_enterRC"))
local macro_rules | `(tactic| walk_at "my_ret") => `(tactic| ((try dsimp only [retOf]); refine ⟨_, _, _, by k_asm, by k_asm, ?_, by assumption, rfl, rfl⟩; (try dsimp only)))
section
variable {w : World} {mg mb : Str → Option Value} {bm : Addr} {ob : Obj}
abbrev bufObj (dx d : Addr) : Obj := ⟨.ref 305, some dx, .plain, #[some (.ref d)]⟩
def bitsOf (v : Int) (n : Nat) : List Int := (List.range n).map fun i => v / 2 ^ (n - 1 - i) % 2
theorem append_bits_spec (b dx d : Addr) (bs : List Int) (v : Int) (n : Nat) (tv tn : Tok) (ps : Array Value) (hn : n ≤ 64) (hz : bs.length + n ≤ 1000000) (hps : TriplesOk ps.toList) :
    SPR w mg mb bm ob 6 60 273 [.ref b, .int v tv, .int n tn] [] [(b, bufObj dx d), (dx, dictOf [] 0), (d, baObj bs), (268, X.tableObj ps)]
      (fun r nw => r = .none ∧ ∃ ps', nw = [(b, bufObj dx d), (dx, dictOf [] 0), (d, baObj (bs ++ bitsOf v n)), (268, X.tableObj ps')] ∧ TriplesOk ps'.toList) := by
  w_on
  delta SPR
  k_fill
  refine' Own.specRC_of (binds := [("self", .ref b), ("val", .int v tv), ("length", .int n tn)]) ?ho ?hcd ?hbind ?hkind ?hnd ?hb ?hco ?hgen ?hk ?hkd; (case ho => k_is); (case hcd => k_is); (case hbind => exact (fun s _ => BindsTo.of_eq rfl)); (case hkind => exact rfl); (case hnd => decide +kernel); (case hco => exact rfl); (case hgen => exact rfl); (case hk => exact rfl); (case hkd => decide)
  intro dp un gd L outer A₀ base g h₁ gn d' tk os cells C F N hY hsub hG hd hu
  have X' := C.X
  have T' := C.T
  have B' := C.B
  have M' := C.M
  have C1 : CodeHd g 272 268 := codeHd_of_K C.X (by with_unfolding_all rfl)
  k_cells hY
  (try simp only [List.cons_append, List.nil_append] at N)
  refine wpR_execs_cons (wpR_Expr (wpR_MethodCall rfl rfl rfl ?_))
  k_fold
  k_steps
  refine getMethod_ba_extend (bs := bs) (N.get (by k_mem)) ?_
  dsimp only
  refine wpR_callWith (P := fun _ => True) rfl (keeps_builtin _) (wpR_evalArgs (wpR_of (spliced_cons ?_)))
  simp only [Bool.false_eq_true, if_false]
  refine genexp_own (P := 268) (c := 272) (mg := mg) (bm := bm) (ob := ob) rfl rfl rfl rfl (by decide) rfl rfl rfl (by show dp < recursionLimit; omega) (by intro _; rfl) ?_
  k_fold
  k_steps
  refine call_reversed_range (by assumption) (by omega) ?_
  refine wpAny_pyIter_rangeiter (Heap.get?_push_size _ rfl) ?_
  rename_i oc hoc Nold qk1 ek1 h2 tk2 t1 u1 v1 hr1 F1 N1 keep1
  have N2 : ∀ q ∈ [(L + 1, oc), (b, bufObj dx d), (dx, dictOf [] 0), (d, baObj bs), (268, X.tableObj ps)], (h2.push (riObj (↑n - 1) (↑n) (-1))).get? q.1 = some q.2 := fun q hq => Heap.get?_push_of_some _ (N1 q hq).1
  have F2 := F1.keeps (h' := h2.push (riObj (↑n - 1) (↑n) (-1))) (fun b o e => Heap.get?_push_of_some _ e)
  have C2 := C1.keeps F2.keep
  have M2 := M'.keeps F2.keep
  have hP2 := N2 (268, X.tableObj ps) (by k_mem)
  have hL : 268 < L := hsub (268, X.tableObj ps) (by k_mem)
  have hlt : L < h2.objs.size := by
    obtain ⟨o, es, ep, ho, _⟩ := F1.ns
    exact Heap.lt_size ho
  refine ⟨C.T.nolimit.keeps F2.keep, hG, L, h2.objs.size, [h2.objs.size], [h2.objs.size], n, _, _, (fun _ => true), (fun i y => ∃ t, y = .int (v / 2 ^ (n - 1 - i) % 2) t), ps, rfl,
    C2.code hP2 hps, C2.tab hP2, M2, ?_, (fun A' hA => (Walks.range hA _ ((n : Int) - 1) (-1) n).bound), ?_, ?_, ?_, ?_, ?_, ?_, ?_⟩
  · show L < (h2.push _).objs.size
    rw [Heap.size_push]; exact Nat.lt_succ_of_lt hlt
  · show IsRangeIter _ _ _ _ _
    simp only [Int.natCast_zero, Int.zero_mul, Int.add_zero, Int.sub_zero]
    exact Heap.get?_push_size _ rfl
  · intro q hq
    rw [List.mem_singleton.mp hq]
    show _ < (h2.push _).objs.size
    rw [Heap.size_push]; exact Nat.lt_succ_self _
  · intro hq
    rw [← List.mem_singleton.mp hq] at hlt
    exact Nat.lt_asymm hL hlt
  · intro q hq; rw [List.mem_singleton.mp hq]; exact hlt
  · intro hq
    have hn := C.T.nolimit.keeps F1.keep
    obtain ⟨_, hns, _⟩ := hn
    have := hns.lt
    rw [List.mem_singleton.mp hq] at this
    exact Nat.lt_irrefl _ this
  · intro Cg code N href hN hkp
    refine ⟨fun A' E' i y s₂ m₂ hA hP hn hm hk => ?_, fun A' E' i y s₂ m₂ hA hP hpz hn hm hk => ?_⟩
    · show wpAny _ _ (pure true) _ _ _
      exact wpAny_pure ⟨rfl, _, _, rfl, fun _ _ e => e⟩
    · obtain ⟨hi, t, rfl⟩ := hP
      have hc1 := N2 (L + 1, oc) (by k_mem)
      have hc2 : L + 1 < h2.objs.size := Heap.lt_size (N1 (L + 1, oc) (by k_mem)).1
      have hc3 : s₂.heap.get? (L + 1) = some oc := by
        refine hk (L + 1) (List.mem_range.mpr (Nat.lt_of_lt_of_le ?_ hN)) (fun e => Nat.ne_of_lt hc2 (List.mem_singleton.mp e)) oc (hkp (L + 1) oc (fun e => ?_) hc1)
        · show L + 1 < (h2.push _).objs.size
          rw [Heap.size_push]; exact Nat.lt_succ_of_lt hc2
        · exact Nat.lt_irrefl _ (e ▸ Nat.lt_succ_of_lt hL)
      refine elt_shiftbit (v := v) (i := (n : Int) - 1 + i * (-1)) (tv := tv) (ti := t) (c := L + 1) (o := oc) rfl rfl rfl hc3 hoc rfl hn hm (by omega) (fun t tk => ?_)
      have ei : ((n : Int) - 1 + i * (-1)).toNat = n - 1 - i := by omega
      rw [ei]
      exact ⟨⟨t, rfl⟩, _, _, rfl, fun _ _ e => e⟩
  · intro a ps' s₅ htab htr hkp hG5 hdr hos ha X5
    refine spliced_nil ⟨trivial, ?_⟩
    show wpR _ _ (call (.builtin "bytearray.extend") [.ref d, .ref a]) _ _ _
    obtain ⟨fp, wr, gg, St, W, hst, hty, _, hfp, hwr⟩ := Gen.in1 X5
    rw [passing_all, List.length_range] at W
    have hd1 := N1 (d, baObj bs) (by k_mem)
    have ht1 := N1 (268, X.tableObj ps) (by k_mem)
    have hne : d ≠ 268 := fun e => by
      have h1 := hd1.1
      rw [show ((d, baObj bs) : Addr × Obj).1 = 268 from e, ht1.1] at h1
      cases h1
    have hdL : d < L := hsub (d, baObj bs) (by k_mem)
    have hbne : b ≠ d := fun e => by
      have h1 := (N1 (b, bufObj dx d) (by k_mem)).1
      rw [show ((b, bufObj dx d) : Addr × Obj).1 = d from e, hd1.1] at h1
      cases h1
    have hdxne : dx ≠ d := fun e => by
      have h1 := (N1 (dx, dictOf [] 0) (by k_mem)).1
      rw [show ((dx, dictOf [] 0) : Addr × Obj).1 = d from e, hd1.1] at h1
      simp [dictOf, baObj] at h1
    have hbt : b ≠ 268 := fun e => by
      have h1 := (N1 (b, bufObj dx d) (by k_mem)).1
      rw [show ((b, bufObj dx d) : Addr × Obj).1 = 268 from e, ht1.1] at h1
      cases h1
    have hdxt : dx ≠ 268 := fun e => by
      have h1 := (N1 (dx, dictOf [] 0) (by k_mem)).1
      rw [show ((dx, dictOf [] 0) : Addr × Obj).1 = 268 from e, ht1.1] at h1
      cases h1
    refine wpR_extend_gen (bs := bs) (n := n) (val := fun j => v / 2 ^ (n - 1 - j) % 2) (hkp d _ hne (N2 (d, baObj bs) (by k_mem))) (hty _ _ hst) W hst hfp ?_ ?_ (fun hm => Nat.lt_asymm hdL (hwr d hm)) (Nat.le_trans hz (by decide)) (fun s' hm hb' => ?_)
    · rintro j y ⟨i, hi, t, rfl⟩
      obtain ⟨hj, e⟩ := List.getElem?_eq_some_iff.mp hi
      rw [List.getElem_range] at e
      subst e
      exact ⟨t, rfl⟩
    · intro j _
      exact ⟨Int.emod_nonneg _ (by decide), Int.lt_trans (Int.emod_lt_of_pos _ (by decide)) (by decide)⟩
    · refine ⟨rfl, wpR_execs_nil ?_⟩
      have hL0 : g.objs.size ≤ L := F2.above
      have hkk : ∀ b o, b ∉ 268 :: d :: wr → (h2.push (riObj (↑n - 1) (↑n) (-1))).get? b = some o → s'.heap.get? b = some o := fun b o hb e =>
        hm.heap b o (fun q => hb (List.mem_cons_of_mem _ q)) (hkp b o (fun q => hb (q ▸ List.mem_cons_self ..)) e)
      have hex : ∀ b ∈ 268 :: d :: wr, g.get? b = none ∧ b ≠ L := by
        intro b hb
        rcases List.mem_cons.mp hb with rfl | hb
        · exact ⟨ht1.2.2, ht1.2.1⟩
        · rcases List.mem_cons.mp hb with rfl | hb
          · exact ⟨hd1.2.2, hd1.2.1⟩
          · exact ⟨beyond_none hL0 (hwr b hb), Nat.ne_of_gt (hwr b hb)⟩
      have F5 := fr_but F2 hkk hex
      have hin : ∀ q : Addr × Obj, q ∈ [(L + 1, oc), (b, bufObj dx d), (dx, dictOf [] 0), (d, baObj bs), (268, X.tableObj ps)] → q.1 < L → q.1 ≠ d → q.1 ≠ 268 → s'.heap.get? q.1 = some q.2 := fun q hq hlt' h1 h2 =>
        hkk _ _ (fun hmm => by
          rcases List.mem_cons.mp hmm with e | hmm
          · exact h2 e
          · rcases List.mem_cons.mp hmm with e | hmm
            · exact h1 e
            · exact Nat.lt_asymm hlt' (hwr _ hmm)) (N2 q hq)
      refine ⟨L, _, [(b, bufObj dx d), (dx, dictOf [] 0), (d, baObj (bs ++ bitsOf v n)), (268, X.tableObj ps')], F5, ?_, ⟨rfl, ps', rfl, htr⟩, ?_, hm.drawn.trans hdr, hm.os.trans hos⟩
      · intro q hq
        simp only [List.mem_cons, List.not_mem_nil, or_false] at hq
        rcases hq with rfl | rfl | rfl | rfl
        · exact ⟨hin (b, bufObj dx d) (by k_mem) (hsub _ (by k_mem)) hbne hbt, (N1 (b, bufObj dx d) (by k_mem)).2⟩
        · exact ⟨hin (dx, dictOf [] 0) (by k_mem) (hsub _ (by k_mem)) hdxne hdxt, (N1 (dx, dictOf [] 0) (by k_mem)).2⟩
        · exact ⟨hb', hd1.2⟩
        · refine ⟨hm.heap 268 _ (fun q => ?_) htab.2, ht1.2⟩
          rcases List.mem_cons.mp q with e | q
          · exact hne e.symm
          · exact Nat.lt_asymm hL (hwr _ q)
      · exact hG5.moved hm.gens
end
section
local macro_rules | `(tactic| walk_at "subscriptTail") => `(tactic| (k_here; k_dflt (refine' Own.subTup_K ?k1 ?k2 ?k3 ?k4 ?k5 ?k6 ?k7 ?k8 ?k9 ?k10 ?_ ?k11; (case k1 => k_asm); (case k2 => k_asm); (case k3 => (refine' inst_seg ?my_segitem ?j2 ?j3; (case my_segitem => k_asm); (case j2 => k_mem); (case j3 => k_mem))); (case k4 => k_is); (case k5 => k_is); (case k6 => k_is); (case k7 => exact rfl); (case k8 => decide); (case k9 => decide); (case k10 => exact rfl); (case k11 => with_unfolding_all rfl))))
section
variable {w : World} {mg mb : Str → Option Value} {bm : Addr} {ob : Obj}

abbrev segObj (dx : Addr) (vs : List Value) : Obj := ⟨.ref 239, some dx, .seq vs.toArray 0, #[]⟩
abbrev segL (x dx : Addr) (b c m e : Value) : Led := [(x, segObj dx [b, c, m, e]), (dx, dictOf [] 0)]
theorem ig_bits (x dx : Addr) (b c m e : Value) : SP w mg mb bm ob 2 20 174 [.ref 213, .ref x] [] (segL x dx b c m e) (fun r nw => r = b ∧ nw = segL x dx b c m e) := by
  walk_at "my_start"
  intro dp un gd L outer A₀ base g h₁ gn d' tk os C F N hsub hG hd hu
  have X' := C.X
  have T' := C.T
  have B' := C.B
  have M' := C.M
  (try dsimp only)
  (try k_fold)
  k_steps
  all_goals (walk_at "my_ret"; exact ⟨rfl, rfl⟩)
theorem ig_count (x dx : Addr) (b c m e : Value) : SP w mg mb bm ob 2 20 174 [.ref 219, .ref x] [] (segL x dx b c m e) (fun r nw => r = c ∧ nw = segL x dx b c m e) := by
  walk_at "my_start"
  intro dp un gd L outer A₀ base g h₁ gn d' tk os C F N hsub hG hd hu
  have X' := C.X
  have T' := C.T
  have B' := C.B
  have M' := C.M
  (try dsimp only)
  (try k_fold)
  k_steps
  all_goals (walk_at "my_ret"; exact ⟨rfl, rfl⟩)
theorem ig_mode (x dx : Addr) (b c m e : Value) : SP w mg mb bm ob 2 20 174 [.ref 225, .ref x] [] (segL x dx b c m e) (fun r nw => r = m ∧ nw = segL x dx b c m e) := by
  walk_at "my_start"
  intro dp un gd L outer A₀ base g h₁ gn d' tk os C F N hsub hG hd hu
  have X' := C.X
  have T' := C.T
  have B' := C.B
  have M' := C.M
  (try dsimp only)
  (try k_fold)
  k_steps
  all_goals (walk_at "my_ret"; exact ⟨rfl, rfl⟩)
theorem ig_enc (x dx : Addr) (b c m e : Value) : SP w mg mb bm ob 2 20 174 [.ref 231, .ref x] [] (segL x dx b c m e) (fun r nw => r = e ∧ nw = segL x dx b c m e) := by
  walk_at "my_start"
  intro dp un gd L outer A₀ base g h₁ gn d' tk os C F N hsub hG hd hu
  have X' := C.X
  have T' := C.T
  have B' := C.B
  have M' := C.M
  (try dsimp only)
  (try k_fold)
  k_steps
  all_goals (walk_at "my_ret"; exact ⟨rfl, rfl⟩)
end
section
variable {w : World} {mg mb : Str → Option Value} {bm : Addr} {ob : Obj}
theorem get_seg_bits {x dx : Addr} {b c m e : Value} {news : Led} {Q E : Value → Shared → Prop} {expr : Bool} {dp un : Nat} {gd : Option (List Code)} {cn : Str} {cs : Scope} {L a : Addr} {ccd : Value} {cl : List (Str × Addr)} {outer : List Env} {A₀ : Around} {base h₀ : Heap} {mm : Str → Option Value} {s : Shared}
    (C : CX w mg mb bm ob A₀ base outer h₀) (F : Fr h₀ L s.heap mm) (N : News h₀ L s.heap news) (h1 : (x, segObj dx [b, c, m, e]) ∈ news) (h2 : (dx, dictOf [] 0) ∈ news) (hG : AllBare s.gens) (hd' : dp + 2 < recursionLimit) (hu : un + 21 < cLine) (hcs : cs.kind = .function) (hv : handedIn b = true)
    (h : ∀ h' tk' g', Fr h₀ L h' mm → News h₀ L h' news → AllBare g' → Q b ⟨h', g', s.drawn, tk', s.os⟩) :
    wpAny (model PySem.Challenge.rw_im0109_02.row.prog w) (ktrTop dp un gd cn cs L a ccd cl outer) (getAttr (.ref x) "bits" expr) Q E s := by
  revert C
  w_on
  delta CX
  k_fill
  intro C
  refine' getAttr_prop (pa := 217) (fget := 213) (Cg := 192) (fcall := 174) (ig_bits x dx b c m e) C F N ?g1 (inst_seg N h1 h2) ?g2 ?ga ?gb ?g3 ?g4 ?g5 ?g6 ?g7 ?g8 ?g9 ?g10 ?g11 ?g12 hG hd' hu hcs hv h
  case g1 => (intro q hq; simp only [List.mem_cons, List.not_mem_nil, or_false] at hq; rcases hq with rfl | rfl <;> assumption)
  case g8 => exact (fun h X => InstAt.of_K (C := 192) (dx := 212) X (by k_is) (by k_is))
  case g9 => exact rfl
  case g7 => k_is
  all_goals k_is
theorem get_seg_count {x dx : Addr} {b c m e : Value} {news : Led} {Q E : Value → Shared → Prop} {expr : Bool} {dp un : Nat} {gd : Option (List Code)} {cn : Str} {cs : Scope} {L a : Addr} {ccd : Value} {cl : List (Str × Addr)} {outer : List Env} {A₀ : Around} {base h₀ : Heap} {mm : Str → Option Value} {s : Shared}
    (C : CX w mg mb bm ob A₀ base outer h₀) (F : Fr h₀ L s.heap mm) (N : News h₀ L s.heap news) (h1 : (x, segObj dx [b, c, m, e]) ∈ news) (h2 : (dx, dictOf [] 0) ∈ news) (hG : AllBare s.gens) (hd' : dp + 2 < recursionLimit) (hu : un + 21 < cLine) (hcs : cs.kind = .function) (hv : handedIn c = true)
    (h : ∀ h' tk' g', Fr h₀ L h' mm → News h₀ L h' news → AllBare g' → Q c ⟨h', g', s.drawn, tk', s.os⟩) :
    wpAny (model PySem.Challenge.rw_im0109_02.row.prog w) (ktrTop dp un gd cn cs L a ccd cl outer) (getAttr (.ref x) "char_count" expr) Q E s := by
  revert C
  w_on
  delta CX
  k_fill
  intro C
  refine' getAttr_prop (pa := 223) (fget := 219) (Cg := 192) (fcall := 174) (ig_count x dx b c m e) C F N ?g1 (inst_seg N h1 h2) ?g2 ?ga ?gb ?g3 ?g4 ?g5 ?g6 ?g7 ?g8 ?g9 ?g10 ?g11 ?g12 hG hd' hu hcs hv h
  case g1 => (intro q hq; simp only [List.mem_cons, List.not_mem_nil, or_false] at hq; rcases hq with rfl | rfl <;> assumption)
  case g8 => exact (fun h X => InstAt.of_K (C := 192) (dx := 218) X (by k_is) (by k_is))
  case g9 => exact rfl
  case g7 => k_is
  all_goals k_is
theorem get_seg_mode {x dx : Addr} {b c m e : Value} {news : Led} {Q E : Value → Shared → Prop} {expr : Bool} {dp un : Nat} {gd : Option (List Code)} {cn : Str} {cs : Scope} {L a : Addr} {ccd : Value} {cl : List (Str × Addr)} {outer : List Env} {A₀ : Around} {base h₀ : Heap} {mm : Str → Option Value} {s : Shared}
    (C : CX w mg mb bm ob A₀ base outer h₀) (F : Fr h₀ L s.heap mm) (N : News h₀ L s.heap news) (h1 : (x, segObj dx [b, c, m, e]) ∈ news) (h2 : (dx, dictOf [] 0) ∈ news) (hG : AllBare s.gens) (hd' : dp + 2 < recursionLimit) (hu : un + 21 < cLine) (hcs : cs.kind = .function) (hv : handedIn m = true)
    (h : ∀ h' tk' g', Fr h₀ L h' mm → News h₀ L h' news → AllBare g' → Q m ⟨h', g', s.drawn, tk', s.os⟩) :
    wpAny (model PySem.Challenge.rw_im0109_02.row.prog w) (ktrTop dp un gd cn cs L a ccd cl outer) (getAttr (.ref x) "mode" expr) Q E s := by
  revert C
  w_on
  delta CX
  k_fill
  intro C
  refine' getAttr_prop (pa := 229) (fget := 225) (Cg := 192) (fcall := 174) (ig_mode x dx b c m e) C F N ?g1 (inst_seg N h1 h2) ?g2 ?ga ?gb ?g3 ?g4 ?g5 ?g6 ?g7 ?g8 ?g9 ?g10 ?g11 ?g12 hG hd' hu hcs hv h
  case g1 => (intro q hq; simp only [List.mem_cons, List.not_mem_nil, or_false] at hq; rcases hq with rfl | rfl <;> assumption)
  case g8 => exact (fun h X => InstAt.of_K (C := 192) (dx := 224) X (by k_is) (by k_is))
  case g9 => exact rfl
  case g7 => k_is
  all_goals k_is
theorem get_seg_enc {x dx : Addr} {b c m e : Value} {news : Led} {Q E : Value → Shared → Prop} {expr : Bool} {dp un : Nat} {gd : Option (List Code)} {cn : Str} {cs : Scope} {L a : Addr} {ccd : Value} {cl : List (Str × Addr)} {outer : List Env} {A₀ : Around} {base h₀ : Heap} {mm : Str → Option Value} {s : Shared}
    (C : CX w mg mb bm ob A₀ base outer h₀) (F : Fr h₀ L s.heap mm) (N : News h₀ L s.heap news) (h1 : (x, segObj dx [b, c, m, e]) ∈ news) (h2 : (dx, dictOf [] 0) ∈ news) (hG : AllBare s.gens) (hd' : dp + 2 < recursionLimit) (hu : un + 21 < cLine) (hcs : cs.kind = .function) (hv : handedIn e = true)
    (h : ∀ h' tk' g', Fr h₀ L h' mm → News h₀ L h' news → AllBare g' → Q e ⟨h', g', s.drawn, tk', s.os⟩) :
    wpAny (model PySem.Challenge.rw_im0109_02.row.prog w) (ktrTop dp un gd cn cs L a ccd cl outer) (getAttr (.ref x) "encoding" expr) Q E s := by
  revert C
  w_on
  delta CX
  k_fill
  intro C
  refine' getAttr_prop (pa := 235) (fget := 231) (Cg := 192) (fcall := 174) (ig_enc x dx b c m e) C F N ?g1 (inst_seg N h1 h2) ?g2 ?ga ?gb ?g3 ?g4 ?g5 ?g6 ?g7 ?g8 ?g9 ?g10 ?g11 ?g12 hG hd' hu hcs hv h
  case g1 => (intro q hq; simp only [List.mem_cons, List.not_mem_nil, or_false] at hq; rcases hq with rfl | rfl <;> assumption)
  case g8 => exact (fun h X => InstAt.of_K (C := 192) (dx := 230) X (by k_is) (by k_is))
  case g9 => exact rfl
  case g7 => k_is
  all_goals k_is
end
section
variable {w : World} {mg mb : Str → Option Value} {bm : Addr} {ob : Obj}

theorem seg_cls' : PySem.Challenge.rw_im0109_02.row.prog = PySem.Challenge.rw_im0109_02.row.prog → TupCls (hd.heap_39 w.params) 239 := by
  w_on
  k_fill
  intro _
  refine ⟨?_, ?_, ?_, ?_⟩
  · exact ⟨_, _, _, _, rfl, rfl, rfl, rfl, rfl⟩
  all_goals k_is
theorem seg_cls : TupCls (hd.heap_39 w.params) 239 := seg_cls' rfl
end
end
end
section
local macro_rules | `(tactic| walk_at "my_enter") => `(tactic| (
  k_dflt (refine' Own.spec_of ?ho ?hcd ?hbind ?hloc ?hcell ?hb ?hco ?hgen ?hk ?hkd; (case ho => k_is); (case hcd => k_is); (case hbind => exact (fun s X => by first | exact binds_K X rfl (by k_is) rfl rfl rfl | exact BindsTo.of_eq rfl)); (case hloc => exact (locs rfl)); (case hcell => decide); (case hco => exact rfl); (case hgen => exact rfl); (case hk => exact rfl); (case hkd => decide))))
local macro_rules | `(tactic| walk_at "my_enterR") => `(tactic| (
  k_dflt (refine' Own.specR_of ?ho ?hcd ?hbind ?hloc ?hcell ?hb ?hco ?hgen ?hk ?hkd; (case ho => k_is); (case hcd => k_is); (case hbind => exact (fun s X => by first | exact binds_K X rfl (by k_is) rfl rfl rfl | exact BindsTo.of_eq rfl)); (case hloc => exact (locs rfl)); (case hcell => decide); (case hco => exact rfl); (case hgen => exact rfl); (case hk => exact rfl); (case hkd => decide))))
local macro_rules | `(tactic| walk_at "my_enterRC") => `(tactic| (
  k_dflt (refine' Own.specRC_of ?ho ?hcd ?hbind ?hkind ?hnd ?hb ?hco ?hgen ?hk ?hkd; (case ho => k_is); (case hcd => k_is); (case hbind => exact (fun s X => by first | exact binds_K X rfl (by k_is) rfl rfl rfl | exact BindsTo.of_eq rfl)); (case hkind => exact rfl); (case hnd => decide +kernel); (case hco => exact rfl); (case hgen => exact rfl); (case hk => exact rfl); (case hkd => decide))))
local macro_rules | `(tactic| walk_at "my_start") => `(tactic| (w_on; delta SP; k_fill; walk_at "my_enter"))
local macro_rules | `(tactic| walk_at "my_startR") => `(tactic| (w_on; delta SPR; k_fill; walk_at "my_enterR"))
local macro_rules | `(tactic| walk_at "my_startRC") => `(tactic| (w_on; delta SPR; k_fill; walk_at "my_enterRC"))
local macro_rules | `(tactic| walk_at "my_ret") => `(tactic| ((try dsimp only [retOf]); refine ⟨_, _, _, by k_asm, by k_asm, ?_, by assumption, rfl, rfl⟩; (try dsimp only)))
local macro_rules | `(tactic| walk_at "getMethod type:tuple") => `(tactic| (k_here; refine' method_type ?F ?X ?m (by decide +kernel) ?e ?h ?_; (case F => k_asm); (case X => k_asm); (case m => kernel_rfl); (case e => k_dflt k_is); (case h => k_handed)))
local macro_rules | `(tactic| walk_at "call builtin:tuple.__new__") => `(tactic| (k_here; k_dflt (refine' tuple_new_K ?k1 ?k2 ?k3 seg_cls ?k4 ?k5 ?_; (case k1 => k_asm); (case k2 => k_asm); (case k3 => k_asm); (case k4 => k_mem); (case k5 => (show (4 : Nat) ≤ sizeLine; decide))); intro x' dx' h' F' N' hl1 hl2))
local macro_rules | `(tactic| walk_at "subscriptTail") => `(tactic| (k_here; k_dflt (refine' Own.subTup_K ?k1 ?k2 ?k3 ?k4 ?k5 ?k6 ?k7 ?k8 ?k9 ?k10 ?_ ?k11; (case k1 => k_asm); (case k2 => k_asm); (case k3 => (refine' inst_seg ?my_segitem ?j2 ?j3; (case my_segitem => k_asm); (case j2 => k_mem); (case j3 => k_mem))); (case k4 => k_is); (case k5 => k_is); (case k6 => k_is); (case k7 => exact rfl); (case k8 => decide); (case k9 => decide); (case k10 => exact rfl); (case k11 => with_unfolding_all rfl))))
section
variable {w : World} {mg mb : Str → Option Value} {bm : Addr} {ob : Obj}
theorem sub2 {p q : Addr × Obj} {l : Led} (h1 : p ∈ l) (h2 : q ∈ l) : ∀ r ∈ [p, q], r ∈ l := by
  intro r hr
  simp only [List.mem_cons, List.not_mem_nil, or_false] at hr
  rcases hr with rfl | rfl <;> assumption
theorem new_spec (b c m e : Value) : SP w mg mb bm ob 2 20 211 [.ref 239, b, c, m, e] [] [] (fun r nw => ∃ x dx, r = .ref x ∧ ∀ q ∈ segL x dx b c m e, q ∈ nw) := by
  walk_at "my_start"
  intro dp un gd L outer A₀ base g h₁ gn d' tk os C F N hsub hG hd hu
  have X' := C.X
  have T' := C.T
  have B' := C.B
  have M' := C.M
  (try dsimp only)
  (try k_fold)
  k_steps
  all_goals (walk_at "my_ret"; exact ⟨_, _, rfl, sub2 (.head _) (.tail _ (.head _))⟩)
end
section
variable {w : World} {mg mb : Str → Option Value} {bm : Addr} {ob : Obj}
theorem oi_args4 (x b c m e : Value) : argsOk "object.__init__" ⟨[x, b, c, m, e], []⟩ := by unfold argsOk; kernel_rfl
theorem make_seg_spec (b c m e : Value) : SP w mg mb bm ob 3 30 239 [b, c, m, e] [] [] (fun r nw => ∃ x dx, r = .ref x ∧ ∀ q ∈ segL x dx b c m e, q ∈ nw) := by
  w_on
  delta SP
  k_fill
  intro dp un gd cn cs L a ccd cl outer A₀ base h₀ m' news s R C F N hcs hsub hG hd hu hret
  have X := C.X.keeps F.keep
  refine make_tupsub (C := 239) (fn := 211) (p := 240) (mc := .type "type") (rs := []) X seg_cls (by k_is) (by k_is) (by k_is) (by k_is) (fun x => oi_args4 _ _ _ _ _) ?_
  have hs := new_spec (w := w) (mg := mg) (mb := mb) (bm := bm) (ob := ob) b c m e
  rw [under_tc]
  refine hs (dp + 1) (un + 1) gd cn cs L a ccd cl outer A₀ base h₀ m' news { s with toks := s.toks + 1 } _ C F N hcs hsub hG (by omega) (by omega) fun v nw h' tk' g' hP F' hN hap hG' => ?_
  obtain ⟨x, dx, rfl, hq⟩ := hP
  have N' := hN (segL x dx b c m e) fun q hq' => .inl (hq q hq')
  exact ⟨x, _, rfl, (N' _ (.head _)).1, rfl, C.X.keeps F'.keep, hret _ nw h' tk' g' ⟨x, dx, rfl, hq⟩ F' hN hap hG'⟩
end
section
local macro_rules | `(tactic| walk_at "my_mems") => `(tactic| (repeat (first | exact List.forall_mem_nil _ | refine List.forall_mem_cons.mpr ⟨by k_mem, ?_⟩)))
section
variable {w : World} {mg mb : Str → Option Value} {bm : Addr} {ob : Obj}
theorem binit_spec (b dx : Addr) : SPR w mg mb bm ob 3 40 259 [.ref b] [] [(b, ⟨.ref 305, some dx, .plain, #[]⟩), (dx, dictOf [] 0)]
      (fun r nw => r = .none ∧ ∃ d, ∀ q ∈ [(b, bufObj dx d), (dx, dictOf [] 0), (d, baObj [])], q ∈ nw) := by
  walk_at "my_startR"
  intro dp un gd L outer A₀ base g h₁ gn d' tk os C F N hsub hG hdp hu
  have X' := C.X
  have T' := C.T
  have B' := C.B
  have M' := C.M
  refine wpR_execs_cons (wpR_Assign_Attribute (wpR_CallName ?_))
  k_fold
  k_steps
  refine wpR_callT ?_
  k_fold
  k_steps
  have F1 := ‹Fr g L h₁ _›
  have N1 := N
  show wpR _ _ (call (.type "bytearray") [.ref 251]) _ _ _
  refine wpR_call_bytearray (t := 251) ⟨_, (C.X.keeps F1.keep) _ _ (by k_is), rfl, _, rfl⟩ fun h' e k => ?_
  have F2 := keep_fr F1 k
  have N2 := news_fresh F1 N1 k e
  have hne : ∀ q ∈ [(b, (⟨.ref 305, some dx, .plain, #[]⟩ : Obj)), (dx, dictOf [] 0)], q.1 < h₁.objs.size := fun q hq => Heap.lt_size (N1 q hq).1
  k_lt hne
  have hbd := news_ne N1 (.head _) (.tail _ (.head _)) ref_ne_type
  clear F1 N1
  dsimp only
  (try k_fold)
  k_steps
  refine wpR_execs_nil ?_
  walk_at "my_ret"
  refine ⟨rfl, h₁.objs.size, ?_⟩
  walk_at "my_mems"
theorem buf_makes' : PySem.Challenge.rw_im0109_02.row.prog = PySem.Challenge.rw_im0109_02.row.prog → makesIn (hd.heap_39 w.params) 305 = true := by
  w_on
  k_fill
  intro _
  k_is
/-- Buffer() -/
theorem buf_spec : SPR w mg mb bm ob 4 60 305 [] [] []
      (fun r nw => ∃ b dx d, r = .ref b ∧ ∀ q ∈ [(b, bufObj dx d), (dx, dictOf [] 0), (d, baObj [])], q ∈ nw) := by
  w_on
  delta SPR
  k_fill
  intro dp un gd cn cs L a ccd cl outer A₀ base h₀ m' news s R C F N hcs hsub hG hdp hu hret
  have X := C.X.keeps F.keep
  obtain ⟨hp, gn, dr, tk, os⟩ := s
  refine make_coreR (C := 305) (fI := 259) X (makes_of X (buf_makes' rfl)) (cd := _) (by k_is) rfl (by k_is) (by k_is) ?_
  rw [under_tc]
  have hs := binit_spec (w := w) (mg := mg) (mb := mb) (bm := bm) (ob := ob) (hp.objs.size + 1) hp.objs.size
  have k : ∀ b o, hp.get? b = some o → ((hp.push emptyDict).push (instObj 305 hp.objs.size)).get? b = some o := fun b o e => Heap.get?_push_of_some _ (Heap.get?_push_of_some _ e)
  have N1 := news_fresh F N (k := fun b o e => Heap.get?_push_of_some emptyDict e) (Heap.get?_push_size _ rfl)
  have F1 := keep_fr F (fun b o e => Heap.get?_push_of_some emptyDict e)
  have N2 := news_fresh F1 N1 (k := fun b o e => Heap.get?_push_of_some (instObj 305 hp.objs.size) e) (Heap.get?_push_size _ rfl)
  have F2 := keep_fr F k
  rw [Heap.size_push] at N2
  refine hs (dp + 1) (un + 1) gd cn cs L a ccd cl outer A₀ base h₀ m' _ _ _ C F2 N2 hcs ?_ hG (by omega) (by omega) fun v nw h' tk' g' hP F' hN hap hG' => ?_
  · walk_at "my_mems"
  · obtain ⟨rfl, d, hq⟩ := hP
    refine ⟨rfl, hret _ nw h' tk' g' ⟨_, _, d, rfl, hq⟩ F' (fun l hl => hN l fun q hq' => ?_) ?_ hG'⟩
    · rcases hl q hq' with h1 | ⟨h1, _⟩
      · exact .inl h1
      · refine .inr ⟨.tail _ (.tail _ h1), fun hm => ?_⟩
        have hlt := Heap.lt_size (N q h1).1
        simp only [List.map_cons, List.map_nil, List.mem_cons, List.not_mem_nil, or_false] at hm
        rcases hm with e | e
        · rw [e] at hlt; exact Nat.lt_irrefl _ (Nat.lt_of_succ_lt hlt)
        · rw [e] at hlt; exact Nat.lt_irrefl _ hlt
    · intro q h1 _ q' hq'
      refine hap q (.tail _ (.tail _ h1)) (fun hm => ?_) q' hq'
      have hlt := Heap.lt_size (N q h1).1
      simp only [List.map_cons, List.map_nil, List.mem_cons, List.not_mem_nil, or_false] at hm
      rcases hm with e | e
      · rw [e] at hlt; exact Nat.lt_irrefl _ (Nat.lt_of_succ_lt hlt)
      · rw [e] at hlt; exact Nat.lt_irrefl _ hlt
end
section
local macro_rules | `(tactic| walk_at "getMethod ref") => `(tactic| (k_here; (with_reducible show wpAny _ _ (getMethod (Value.ref _) (PySem.Str.ofString "extend") _) _ _ _); refine' Own.getMethod_baN ?my_n ?my_m ?_; (case my_n => k_asm); (case my_m => k_mem); (try dsimp only)))
section
variable {w : World} {mg mb : Str → Option Value} {bm : Addr} {ob : Obj}

theorem getbits_spec (b dx d : Addr) : SP w mg mb bm ob 1 20 280 [.ref b] [] [(b, bufObj dx d), (dx, dictOf [] 0)] (fun r nw => r = .ref d ∧ nw = [(b, bufObj dx d), (dx, dictOf [] 0)]) := by
  walk_at "my_start"
  intro dp un gd L outer A₀ base g h₁ gn d' tk os C F N hsub hG hdp hu
  have X' := C.X
  have T' := C.T
  have B' := C.B
  have M' := C.M
  (try dsimp only)
  (try k_fold)
  k_steps
  all_goals (walk_at "my_ret"; exact ⟨rfl, rfl⟩)
theorem bext_spec (b dx d e : Addr) (bs cs : List Int) (hde : d ≠ e) (hz : bs.length + cs.length ≤ 1000000) : SPR w mg mb bm ob 2 40 266 [.ref b, .ref e] [] [(b, bufObj dx d), (dx, dictOf [] 0), (d, baObj bs), (e, baObj cs)]
    (fun r nw => r = .none ∧ nw = [(b, bufObj dx d), (dx, dictOf [] 0), (d, baObj (bs ++ cs)), (e, baObj cs)]) := by
  walk_at "my_startR"
  intro dp un gd L outer A₀ base g h₁ gn d' tk os C F N hsub hG hdp hu
  have X' := C.X
  have T' := C.T
  have B' := C.B
  have M' := C.M
  refine wpR_execs_cons (wpR_Expr (wpR_MethodCall rfl rfl rfl ?_))
  k_fold
  k_steps
  refine wpR_callB ?_
  k_fold
  k_steps
  show wpR _ _ (call (.builtin "bytearray.extend") [.ref d, .ref e]) _ _ _
  have F1 := ‹Fr g L h₁ _›
  refine wpR_extend_ba (N.get (by k_mem)) (N.get (by k_mem)) (Nat.le_trans hz (by decide)) fun h' e1 e2 => ?_
  refine ⟨rfl, wpR_execs_nil ?_⟩
  have hbd := news_ne N (a := b) (b := d) (by k_mem) (by k_mem) ref_ne_type
  have hxd := news_ne N (a := dx) (b := d) (by k_mem) (by k_mem) (by simp [dictOf])
  have hde' : @Ne Nat d e := hde
  have F2 := F1.change e2 (N (d, baObj bs) (by k_mem)).2.1 (N (d, baObj bs) (by k_mem)).2.2
  have N2 : News g L h' [(b, bufObj dx d), (dx, dictOf [] 0), (d, baObj (bs ++ cs)), (e, baObj cs)] := news_upd N (o := baObj bs) (by k_upd) e2 e1
  walk_at "my_ret"
  exact ⟨rfl, rfl⟩
end
section
variable {w : World} {mg mb : Str → Option Value} {bm : Addr} {ob : Obj}

abbrev tupObj (vs : List Value) : Obj := { cls := .type "tuple", data := .seq vs.toArray }
theorem dtb_none (b : Array UInt8) (ks : List Int) (hk : KBw.bInts b = ks) (hl : ks.length ≤ 16) (t : Tok) : SP w mg mb bm ob 2 40 51 [.bytes b t, .none] [] []
    (fun r nw => ∃ D k1 k2, r = .ref D ∧ (D, tupObj [.bytes b t, .int ks.length k1, .str "iso-8859-1" k2]) ∈ nw) := by
  walk_at "my_start"
  intro dp un gd L outer A₀ base g h₁ gn d' tk os C F N hsub hG hdp hu
  have X' := C.X
  have T' := C.T
  have B' := C.B
  have M' := C.M
  (try dsimp only)
  (try k_fold)
  k_steps
  all_goals (walk_at "my_ret"; exact ⟨_, _, _, rfl, .head _⟩)
theorem dtb_str (b : Array UInt8) (ks : List Int) (hk : KBw.bInts b = ks) (hl : ks.length ≤ 16) (t t' : Tok) : SP w mg mb bm ob 2 40 51 [.bytes b t, .str "gb2312" t'] [] []
    (fun r nw => ∃ D k1 k2, r = .ref D ∧ (D, tupObj [.bytes b t, .int ks.length k1, .str "gb2312" k2]) ∈ nw) := by
  walk_at "my_start"
  intro dp un gd L outer A₀ base g h₁ gn d' tk os C F N hsub hG hdp hu
  have X' := C.X
  have T' := C.T
  have B' := C.B
  have M' := C.M
  (try dsimp only)
  (try k_fold)
  k_steps
  all_goals (walk_at "my_ret"; exact ⟨_, _, _, rfl, .head _⟩)
end
section
variable {w : World} {mg mb : Str → Option Value} {bm : Addr} {ob : Obj}

theorem paired_get {α β : Type} {F : α → β → Prop} : ∀ {l₁ : List α} {l₂ : List β} {j : Nat} {a : α}, Paired F l₁ l₂ → l₁[j]? = some a → ∃ b, l₂[j]? = some b ∧ F a b
  | _, _, 0, _, .cons h _, e => by simp at e; subst e; exact ⟨_, rfl, h⟩
  | _, _, j + 1, a, .cons _ r, e => by
    obtain ⟨b, hb, hf⟩ := paired_get (j := j) (a := a) r (by simpa using e)
    exact ⟨b, by simpa using hb, hf⟩
  | _, _, _, _, .nil, e => by simp at e
theorem alpha_high : ∀ c : UInt8, 161 ≤ c.toNat → (#[48, 49, 50, 51, 52, 53, 54, 55, 56, 57, 65, 66, 67, 68, 69, 70, 71, 72, 73, 74, 75, 76, 77, 78, 79, 80, 81, 82, 83, 84, 85, 86, 87, 88, 89, 90, 32, 36, 37, 42, 43, 45, 46, 47, 58] : Array UInt8).contains c = false := by
  intro c h
  have : ∀ n : Fin 256, 161 ≤ n.val → (#[48, 49, 50, 51, 52, 53, 54, 55, 56, 57, 65, 66, 67, 68, 69, 70, 71, 72, 73, 74, 75, 76, 77, 78, 79, 80, 81, 82, 83, 84, 85, 86, 87, 88, 89, 90, 32, 36, 37, 42, 43, 45, 46, 47, 58] : Array UInt8).contains (UInt8.ofFin n) = false := by decide +kernel
  exact this c.toFin h
theorem isal_spec (b : Array UInt8) (ks : List Int) (hk : KBw.bInts b = ks) (hl : ks.length ≤ 16) (hl0 : 0 < ks.length) (c0 : UInt8) (hc0 : c0 ∈ b) (hc1 : 161 ≤ c0.toNat) (t : Tok) : SP w mg mb bm ob 2 40 71 [.bytes b t] [] [] (fun r nw => r = .bool false) := by
  walk_at "my_start"
  intro dp un gd L outer A₀ base g h₁ gn d' tk os C F N hsub hG hdp hu
  have X' := C.X
  have T' := C.T
  have B' := C.B
  have M' := C.M
  (try dsimp only)
  (try k_fold)
  k_steps
  refine KBw.pyIter_bytes ?_
  refine ⟨fun _ => true, fun v y => ∃ (c : UInt8) (u : Tok) (r : Bool), v = .int (c.toNat : Int) u ∧ y = .bool r ∧ (161 ≤ c.toNat → r = false), _, [_], [_], b.size, _, _, rfl, KBw.walks rfl _ b t, ?_, ⟨_, Heap.get?_push_size _ rfl, rfl, rfl⟩, ?_, ⟨?_, ?_⟩, ?_⟩
  · rw [← KBw.ints_length, hk]; exact Nat.le_trans hl (by decide)
  · intro q hq
    rw [List.mem_singleton.mp hq]
    show _ < (h₁.push _).objs.size
    rw [Heap.size_push]; exact Nat.lt_succ_self _
  · intro Cg i v s₃ m₃ E' hP hn hm hkp htk
    show wpAny _ _ (pure true) _ _ _
    exact wpAny_pure ⟨rfl, _, _, rfl, fun _ _ e => e⟩
  · intro Cg i v s₃ m₃ E' hP _ hn hm hkp htk
    obtain ⟨c, u, hbi, rfl⟩ := hP
    refine wpAny_Compare1 (wpAny_Name (wpAny_loadName_local rfl rfl hn hm ?_))
    have hI : g.get? h₁.objs.size = none ∧ h₁.objs.size ≠ L := ⟨Fr.fresh F, Nat.ne_of_gt (by obtain ⟨o, es, ep, ho, _⟩ := F.ns; exact Heap.lt_size ho)⟩
    have F3 := fr_but (ex := [h₁.objs.size]) (keep_fr F (h' := h₁.push (biObj b t 0)) fun b o e => Heap.get?_push_of_some _ e) (h' := s₃.heap) (fun b o hb e => hkp b o hb e) (fun q hq => by rw [List.mem_singleton.mp hq]; exact hI)
    refine nameG_K (K := Mine02.hd.heap_39 w.params) F3 C.X C.T (by k_is) ?_ rfl rfl rfl (by decide)
    have hc : c.toNat < 256 := c.toNat_lt
    refine in_bytes (by omega) (by omega) ?_
    refine ⟨⟨c, u, _, rfl, rfl, fun h161 => ?_⟩, _, _, rfl, fun _ _ e => e⟩
    have ec : ((c.toNat : Int)).toNat.toUInt8 = c := by simp
    rw [ec]
    exact alpha_high c h161
  · intro D h' tk' ys vs hD hL hPl hlen hP hF hkp
    k_fold
    k_steps
    refine call_all_walk (wpAny_pyIter_list hL ?_)
    have hne : D ≠ h'.objs.size := (let ⟨_, ho, _⟩ := hL; Nat.ne_of_lt (Heap.lt_size ho))
    obtain ⟨j0, hj0, ej0⟩ := Array.mem_iff_getElem.mp hc0
    refine ⟨_, _, _, _, _, _, fun j => (match ys[j]? with | some (.bool r) => r | _ => true), rfl, Walks.list rfl _ _ hne ys, ⟨⟨_, Heap.get?_push_size _ rfl, rfl, rfl⟩, hL.push _⟩, ?_, ?_⟩
    · intro i v s' Q' E'' hv hq
      obtain ⟨a, c, u, r, _, rfl, _⟩ := hF.right v (Array.mem_toList_iff.mpr (Array.mem_of_getElem? hv))
      dsimp only at hv hq
      rw [hv] at hq
      exact wpAny_truthy_bool hq
    · intro h2 tk2 hk2
      have hall : (List.range ys.size).all (fun j => (match ys[j]? with | some (.bool r) => r | _ => true)) = false := by
        rw [List.filter_eq_self.mpr (fun _ _ => rfl)] at hF
        have hv0 : j0 < vs.length := by rw [hlen]; exact hj0
        obtain ⟨c, u, hbc, hvc⟩ := hP j0 vs[j0] (List.getElem?_eq_getElem hv0)
        obtain ⟨y, hy, c', u', r, e1, rfl, hr⟩ := paired_get hF (List.getElem?_eq_getElem hv0)
        have hc : c = c0 := by
          rw [Array.getElem?_eq_getElem hj0, ej0] at hbc
          exact (Option.some.inj hbc).symm
        rw [hvc] at e1
        injection e1 with e1 e2
        have hr' : r = false := hr (by rw [hc] at e1; omega)
        rw [Array.getElem?_toList] at hy
        refine List.all_eq_false.mpr ⟨j0, List.mem_range.mpr (Array.getElem?_eq_some_iff.mp hy).1, ?_⟩
        rw [hy, hr']
        decide
      rw [hall]
      have hI : ∀ x ∈ [h₁.objs.size], g.get? x = none ∧ x ≠ L := fun x hx => by
        rw [List.mem_singleton.mp hx]
        exact ⟨Fr.fresh F, Nat.ne_of_gt (by obtain ⟨o, es, ep, ho, _⟩ := F.ns; exact Heap.lt_size ho)⟩
      have F3 := fr_but (ex := [h₁.objs.size]) (keep_fr F (h' := h₁.push (biObj b t 0)) fun b o e => Heap.get?_push_of_some _ e) (h' := h') (fun b o hb e => hkp b o hb e) hI
      have hI2 : ∀ x ∈ [h'.objs.size], g.get? x = none ∧ x ≠ L := fun x hx => by
        rw [List.mem_singleton.mp hx]
        exact ⟨Fr.fresh F3, Nat.ne_of_gt (by obtain ⟨o, es, ep, ho, _⟩ := F3.ns; exact Heap.lt_size ho)⟩
      have F4 := fr_but (ex := [h'.objs.size]) (keep_fr F3 (fun b o e => Heap.get?_push_of_some _ e)) (h' := h2) (fun b o hb e => hk2 b o hb e) hI2
      exact ⟨L, _, [], F4, News.nil, rfl, hG, rfl, rfl⟩
end
section
local macro_rules | `(tactic| walk_at "call builtin:iter") => `(tactic| (k_here; (with_reducible show wpAny _ _ (call (Value.builtin "iter") [Value.bytes _ _]) _ _ _); refine' Own.iter_bytesN ?my_f ?my_n ?_; (case my_f => k_asm); (case my_n => k_asm); intro I' h' F' N' l1; (try k_lt l1)))
local macro_rules | `(tactic| walk_at "call builtin:next") => `(tactic| (k_here; (with_reducible show wpAny _ _ (call (Value.builtin "next") [Value.ref _]) _ _ _); refine' Own.next_bytesN ?my_f ?my_n ?my_u ?my_x ?_; (case my_f => k_asm); (case my_n => k_asm); (case my_u => k_upd); (case my_x => assumption); intro h' u' tk' F' N'))
section
variable {w : World} {mg mb : Str → Option Value} {bm : Addr} {ob : Obj}
def pairK (a b : Int) : Bool := let c := a * 256 + b; (33088 ≤ c && c ≤ 40956) || (57408 ≤ c && c ≤ 60351)
theorem small2 (n : Nat) (hn : n ≤ 8) : Builtin.Range.small 0 ((2 * n : Nat) : Int) 2 = true := by
  have : ∀ m : Fin 9, Builtin.Range.small 0 ((2 * m.val : Nat) : Int) 2 = true := by decide +kernel
  exact this ⟨n, by omega⟩
theorem size2 (n : Nat) (hn : n ≤ 8) : Builtin.Range.rangeSize 0 ((2 * n : Nat) : Int) 2 = n := by
  have : ∀ m : Fin 9, Builtin.Range.rangeSize 0 ((2 * m.val : Nat) : Int) 2 = m.val := by decide +kernel
  exact this ⟨n, by omega⟩
theorem iskanji_spec (b : Array UInt8) (n : Nat) (hb : b.size = 2 * n) (hn0 : 0 < n) (hn : n ≤ 8) (t : Tok) : SPR w mg mb bm ob 2 40 78 [.bytes b t] [] []
    (fun r nw => r = .bool ((List.range n).all fun i => pairK ((b.getD (2 * i) 0).toNat : Int) ((b.getD (2 * i + 1) 0).toNat : Int))) := by
  walk_at "my_startR"
  intro dp un gd L outer A₀ base g h₁ gn d' tk os C F N hsub hG hdp hu
  have X' := C.X
  have T' := C.T
  have B' := C.B
  have M' := C.M
  have hk : KBw.bInts b = KBw.bInts b := rfl
  have hlen : (KBw.bInts b).length = 2 * n := by rw [KBw.ints_length, hb]
  refine wpR_execs_app (l₁ := [_, _, _]) (l₂ := [_, _]) ?_
  (try dsimp only)
  (try k_fold)
  k_steps
  rotate_left
  · refine wpR_execs_cons (wpR_For ?_)
    k_fold
    k_steps
    have hr := ‹IsRange _ _ 0 _ 2 _ _ _›
    have F1 := ‹Fr g L _ _›
    refine wpAny_pyIter_range hr (by rw [hlen]; exact small2 n hn) ?_
    rw [hlen, size2 n hn]
    have N1 := ‹News g L _ _›
    have F2 := keep_fr F1 (h' := _) fun b o e => Heap.get?_push_of_some (riObj 0 n 2) e
    have N2 := news_fresh F1 N1 (fun b o e => Heap.get?_push_of_some (riObj 0 n 2) e) (Heap.get?_push_size _ rfl)
    have hap := fun (q : Addr × Obj) hq => Nat.ne_of_lt (Heap.lt_size (N1 q hq).1)
    refine forS (n := n) (ob := fun i => riObj (0 + (i : Nat) * 2) ((n : Int) - (i : Nat)) 2) [Str.ofString "code"] (Steps.range rfl _ 0 2 n) rfl rfl
      (fun i nw => nw = [(_, biObj b t (2 * i))] ∧ ∀ j, j < i → pairK ((b.getD (2 * j) 0).toNat : Int) ((b.getD (2 * j + 1) 0).toNat : Int) = true) (fun _ _ _ _ _ => trivial) F2 (by simpa using N2) hap hG ⟨rfl, fun j hj => absurd hj (Nat.not_lt_zero _)⟩ ?_ ?_
    · rintro i v u news₁ h3 tk3 gn3 hi ⟨t', rfl⟩ ⟨rfl, hall⟩ hap3 F3 N3 hG3
      have hx0 : b[2 * i]? = some (b.getD (2 * i) 0) := by simp [show 2 * i < b.size by omega]
      have hx1 : b[2 * i + 1]? = some (b.getD (2 * i + 1) 0) := by simp [show 2 * i + 1 < b.size by omega]
      have hap4 := hap3 _ (.head _)
      have hap5 : @Ne Nat _ _ := hap4
      dsimp only at N3 hap5 F3
      refine wpR_of ?_
      have hc0 : (b.getD (2 * i) 0).toNat < 256 := UInt8.toNat_lt _
      have hc1 : (b.getD (2 * i + 1) 0).toNat < 256 := UInt8.toNat_lt _
      (try k_fold)
      k_steps
      all_goals (dsimp only)
      all_goals (simp only [or_bytes _ _ hc1] at *)
      iterate 2 (rotate_left 0; refine ⟨_, [_], ⟨?_, fun j hj => ?_⟩, ?_, ?_, by assumption, by assumption, hG3, rfl, rfl⟩
                 · rfl
                 · rcases Nat.lt_or_ge j i with h | h
                   · exact hall j h
                   · have : j = i := by omega
                     subst this
                     simp only [pairK, Bool.or_eq_true, Bool.and_eq_true, decide_eq_true_eq]
                     omega
                 · intro y h1 h2
                   have h3 : y ≠ Str.ofString "code" := by rintro rfl; simp at h2
                   simp only [if_neg h1, if_neg h3, h2, Bool.false_eq_true, if_false]
                 · intro q hq; rw [List.mem_singleton.mp hq]; exact hap5)
      all_goals (walk_at "my_ret"; refine congrArg Value.bool ?_; symm; refine List.all_eq_false.mpr ⟨i, List.mem_range.mpr hi, ?_⟩; intro hp; simp only [pairK, Bool.or_eq_true, Bool.and_eq_true, decide_eq_true_eq] at hp; omega)
    · intro u news' h4 tk4 gn4 hJ4 F4 N4 hG4
      obtain ⟨rfl, hall⟩ := hJ4
      dsimp only
      refine wpR_of ?_
      (try k_fold)
      k_steps
      all_goals (walk_at "my_ret"; refine congrArg Value.bool ?_; symm; exact List.all_eq_true.mpr fun i hi => hall i (List.mem_range.mp hi))
  · exfalso; omega
  · exfalso
    have h3 : (((KBw.bInts b).length : Nat) : Int).fmod 2 = 0 := by
      rw [hlen, Int.fmod_eq_emod_of_nonneg _ (by decide)]; omega
    first | contradiction | (simp_all; done)
end
section
local macro_rules | `(tactic| walk_at "getMethod bytes") => `(tactic| (k_here; (with_reducible show wpAny _ _ (getMethod (Value.bytes _ _) (PySem.Str.ofString "isdigit") _) _ _ _); refine Own.getMethod_isdigit ?_))
local macro_rules | `(tactic| walk_at "call builtin:bytes.isdigit") => `(tactic| (k_here; refine Own.call_isdigit ?_; (try simp only [*])))
section
local macro_rules | `(tactic| walk_at "call ref") => `(tactic| (k_here; (with_reducible show wpAny _ _ (call (Value.ref 71) _) _ _ _); k_dflt (refine' Own.Spec.useV (isal_spec _ _ rfl ?a1 ?a2 _ ?a3 ?a4 _) ?a5 ?a6 ?a7 ?a8 ?a9 ?a10 ?a11 ?_; (case a1 => assumption); (case a2 => assumption); (case a3 => assumption); (case a4 => assumption); (case a5 => assumption); (case a6 => k_asm); (case a7 => k_asm); (case a8 => rfl); (case a9 => assumption); (case a10 => omega); (case a11 => omega)); intro v' nw' h' tk' g' hP' F' N' hG'; subst hP'; dsimp only))
section
variable {w : World} {mg mb : Str → Option Value} {bm : Addr} {ob : Obj}
theorem dig_high : ∀ c : UInt8, 161 ≤ c.toNat → PySem.Builtin.Bytes.isDigit c = false := by
  intro c h
  have : ∀ n : Fin 256, 161 ≤ n.val → PySem.Builtin.Bytes.isDigit (UInt8.ofFin n) = false := by decide +kernel
  exact this c.toFin h
theorem findmode_spec (b : Array UInt8) (n : Nat) (hb : b.size = 2 * n) (hn0 : 0 < n) (hn : n ≤ 8) (c0 : UInt8) (hc0 : c0 ∈ b) (hc1 : 161 ≤ c0.toNat) (t : Tok) : SPR w mg mb bm ob 4 60 85 [.bytes b t] [] []
    (fun r nw => ∃ tk, r = .int (if ((List.range n).all fun i => pairK ((b.getD (2 * i) 0).toNat : Int) ((b.getD (2 * i + 1) 0).toNat : Int)) then 8 else 4) tk) := by
  walk_at "my_startR"
  intro dp un gd L outer A₀ base g h₁ gn d' tk os C F N hsub hG hdp hu
  have X' := C.X
  have T' := C.T
  have B' := C.B
  have M' := C.M
  have hlen : (KBw.bInts b).length = 2 * n := by rw [KBw.ints_length, hb]
  have hl1 : (KBw.bInts b).length ≤ 16 := by omega
  have hl2 : 0 < (KBw.bInts b).length := by omega
  have hdig : PySem.Builtin.Bytes.allOf PySem.Builtin.Bytes.isDigit b.toList = false := by
    unfold PySem.Builtin.Bytes.allOf
    rw [Bool.and_eq_false_iff]
    exact .inr (List.all_eq_false.mpr ⟨c0, Array.mem_toList_iff.mpr hc0, by rw [dig_high c0 hc1]; decide⟩)
  refine wpR_execs_app (l₁ := [_, _]) (l₂ := [_, _]) ?_
  (try dsimp only)
  (try k_fold)
  k_steps
  have hGn := ‹AllBare _›
  have F1 := ‹Fr g L _ _›
  have N1 := ‹News g L _ _›
  refine wpR_execs_cons (wpR_If (wpR_isTrue_value (wpR_CallName ?_)))
  k_fold
  k_steps
  refine wpR_callK (K := Mine02.hd.heap_39 w.params) (by k_is) ?_
  k_fold
  k_steps
  show wpR _ _ (call (.ref 78) [.bytes b t] []) _ _ _
  refine Own.SpecR.useV (iskanji_spec b n hb hn0 hn t) C F1 N1 rfl hGn (by omega) (by omega) fun v nw h' tk' g' hP F' N' hG' => ?_
  subst hP
  refine wpAny_truthy_bool ?_
  dsimp only
  by_cases hall : ((List.range n).all fun i => pairK ((b.getD (2 * i) 0).toNat : Int) ((b.getD (2 * i + 1) 0).toNat : Int)) = true
  · rw [if_pos hall]
    refine wpR_of ?_
    (try k_fold)
    k_steps
    all_goals (dsimp only; walk_at "my_ret"; rw [if_pos hall]; exact ⟨_, rfl⟩)
  · rw [if_neg hall]
    refine wpR_execs_nil ?_
    dsimp only
    refine wpR_of ?_
    (try k_fold)
    k_steps
    all_goals (dsimp only; walk_at "my_ret"; rw [if_neg hall]; exact ⟨_, rfl⟩)
end
section
variable {w : World} {prog : Program} {A : Around} {E : Value → Shared → Prop} {s : Shared} {h : Heap}
def mmPairs : List (Str × Value) := [("numeric", .int 1 196), ("alphanumeric", .int 2 198), ("byte", .int 4 200), ("kanji", .int 8 202), ("hanzi", .int 13 204)]
theorem mm_at (X : (hd.heap_39 w.params).In h) : h.DictAt (strKind prog w) 23 mmPairs 5 := by
  have hl := X 23 _ rfl
  refine ⟨_, _, hl, ⟨rfl, rfl, rfl⟩, rfl, ?_, ?_, by decide⟩
  · intro e he
    simp only [List.mem_toArray, List.mem_cons, List.not_mem_nil, or_false] at he
    rcases he with rfl | rfl | rfl | rfl | rfl <;> exact ⟨_, strKind_is prog w _ _, rfl⟩
  · exact .cons (strKind_is prog w _ _) rfl (.cons (strKind_is prog w _ _) rfl (.cons (strKind_is prog w _ _) rfl (.cons (strKind_is prog w _ _) rfl (.cons (strKind_is prog w _ _) rfl .nil))))
theorem mm_of (X : (hd.heap_39 w.params).In h) : h.DictOf (strKind prog w) 23 mmPairs :=
  let ⟨o, es, r⟩ := mm_at (prog := prog) X; ⟨o, es, 5, r⟩
theorem mm_method {pl : Sem Bool} {Q : Value × List Value → Shared → Prop} (X : (hd.heap_39 w.params).In s.heap) (hq : Q (.builtin "dict.items", [.ref 23]) s) : wpAny (model prog w) A (getMethod (.ref 23) "items" pl) Q E s :=
  getMethod_builtin (T := "dict") ⟨_, X 23 _ rfl, rfl⟩ PySem.F.plainAttrs_dict PySem.F.slot_dict_items PySem.F.type_dict_items (fun a e => by cases e; exact ⟨_, X 23 _ rfl, rfl⟩) hq
theorem mm_items {Q : Value → Shared → Prop} (X : (hd.heap_39 w.params).In s.heap) (hq : Q (.ref s.heap.objs.size) { s with heap := s.heap.push { cls := .type "dict_items", data := .fields #[.ref 23] } }) :
    wpAny (model prog w) A (call (.builtin "dict.items") [.ref 23]) Q E s :=
  call_meetsIn PySem.F.slot_dict_items ⟨_, X 23 _ rfl, rfl⟩ PySem.F.entry_dict_items (PySem.F.args_dict_items_1 _) (meets_dict_items (strKind prog w) 23 rfl) ⟨⟨_, mm_of X⟩, hq⟩
end
end
section
local macro_rules | `(tactic| walk_at "getMethod ref") => `(tactic| (k_here; (with_reducible show wpAny _ _ (getMethod (Value.ref 23) (PySem.Str.ofString "items") _) _ _ _); refine mm_method (by k_in) ?_; (try dsimp only)))
section
local macro_rules | `(tactic| walk_at "my_dummy") => `(tactic| fail)
variable {w : World} {mg mb : Str → Option Value} {bm : Addr} {ob : Obj}
def GmE (g : Heap) (L : Addr) (d : Drawn) (os : OsState) (gn : Array GenState) (mo va : Int) (nm : Str) (tk : Tok) (J : Heap → Prop) (m : Str → Option Value) (f : Flow) (s₃ : Shared) : Prop :=
  ∃ h tk', s₃ = ⟨h, gn, d, tk', os⟩ ∧ J h ∧ Fr g L h m ∧ ((f = .next ∧ mo ≠ va) ∨ (f = .ret (.str nm tk)))
theorem gmn_spec (mo : Int) (t : Tok) (hm : mo = 1 ∨ mo = 2 ∨ mo = 4 ∨ mo = 8) : SP w mg mb bm ob 2 60 66 [.int mo t] [] [] (fun r nw => ∃ x k, r = .str x k ∧ x.length ≤ 20) := by
  w_on
  delta SP
  k_fill
  refine' Own.spec_of (binds := [("mode_const", .int mo t)]) ?ho ?hcd ?hbind ?hloc ?hcell ?hb ?hco ?hgen ?hk ?hkd; (case ho => k_is); (case hcd => k_is); (case hbind => exact (fun s _ => BindsTo.of_eq rfl)); (case hloc => exact (locs rfl)); (case hcell => decide); (case hco => exact rfl); (case hgen => exact rfl); (case hk => exact rfl); (case hkd => decide)
  intro dp un gd L outer A₀ base g h₁ gn d' tk os C F N hsub hG hdp hu
  have X' := C.X
  have T' := C.T
  have B' := C.B
  have M' := C.M
  (try dsimp only)
  (try k_fold)
  k_steps
  refine wpAny_For ?_
  k_fold
  k_steps
  refine mm_items (C.X.keeps F.keep) ?_
  show wpAny _ _ (pyIter (.ref h₁.objs.size)) _ _ _
  have F1 := keep_fr F (h' := h₁.push { cls := .type "dict_items", data := .fields #[.ref 23] }) fun b o e => Heap.get?_push_of_some _ e
  refine wpAny_pyIter_items ⟨_, Heap.get?_push_size _ rfl, rfl, rfl⟩ (mm_at (C.X.keeps F1.keep)) ?_
  have F2 := keep_fr F1 (h' := (h₁.push { cls := .type "dict_items", data := .fields #[.ref 23] }).push { cls := .type "dict_itemiterator", data := .fields #[.none, .bool false, .ref 23, .int 0 0, .int mmPairs.length 0, .int 5 0, .none, .none] }) fun b o e => Heap.get?_push_of_some _ e
  dsimp only
  have hIn : g.get? (h₁.push { cls := .type "dict_items", data := .fields #[.ref 23] }).objs.size = none := Fr.fresh F1
  have hIL : (h₁.push { cls := .type "dict_items", data := .fields #[.ref 23] }).objs.size ≠ L := Nat.ne_of_gt (by obtain ⟨o, es, ep, ho, _⟩ := F1.ns; exact Heap.lt_size ho)
  refine codeAny_forLoop_any (fun k s₁ => ∃ (i : Nat) (nn vv : Option Value) (ok ov : Value) (h : Heap) (tk : Nat), s₁ = ⟨h, gn, d', tk, os⟩ ∧ k = 5 - i ∧ i ≤ 3 ∧ (0 < i → mo ≠ 1) ∧ (1 < i → mo ≠ 2) ∧ (2 < i → mo ≠ 4) ∧ IsItemIter h (h₁.push { cls := .type "dict_items", data := .fields #[.ref 23] }).objs.size 23 i 5 5 ok ov ∧ Fr g L h (fun y => if y = "val" then vv else if y = "name" then nn else List.lookup y [("mode_const", .int mo t)])) ?_ 5 ?_
  · rintro k s₁ ⟨i, nn, vv, ok, ov, h, tk1, rfl, rfl, hi, a1, a2, a3, hit, F3⟩
    have hat := mm_at (prog := PySem.Challenge.rw_im0109_02.row.prog) (C.X.keeps F3.keep)
    have h4 : i = 0 ∨ i = 1 ∨ i = 2 ∨ i = 3 := by omega
    obtain ⟨nm, va, tv, hp⟩ : ∃ nm va tv, mmPairs[i]? = some (nm, .int va tv) := by rcases h4 with rfl | rfl | rfl | rfl <;> exact ⟨_, _, _, rfl⟩
    refine wpAny_pyNext_items_item hit hat hp fun key h' hkey hout htup hsz hk => ?_
    obtain ⟨tk5, rfl⟩ := Value.isStrOf_shape hkey
    dsimp only
    refine wpAny_letOwnedTupleGo_items hout fun h2 he2 hs2 => ?_
    have hex : ∀ b ∈ [(h₁.push { cls := .type "dict_items", data := .fields #[.ref 23] }).objs.size], g.get? b = none ∧ b ≠ L := fun b hb => by rw [List.mem_singleton.mp hb]; exact ⟨hIn, hIL⟩
    have F4 := fr_but F3 (h' := h') (fun b o hb e => hk b o (fun q => hb (List.mem_singleton.mpr q)) e) hex
    have F5 := F4.change hs2 hIL hIn
    have hTI : h.objs.size ≠ (h₁.push { cls := .type "dict_items", data := .fields #[.ref 23] }).objs.size := Nat.ne_of_gt (Heap.lt_size hit)
    have ht2 : IsTup h2 h.objs.size #[.str nm tk5, .int va tv] := ⟨_, (hs2.2 _ hTI).trans htup, rfl, _, rfl⟩
    refine assign_Tuple_tuple rfl ht2 rfl rfl fun h3 hx3 => ?_
    have F6 := F5.extBut hx3 (Nat.le_refl _)
    have he3 := hx3 _ _ (Nat.ne_of_lt (Heap.lt_size he2)) he2
    simp only [assignEach, List.map_cons, List.map_nil]
    refine wpAny_mono (Q := fun _ s₂ => ∃ h5 tk7, s₂ = ⟨h5, gn, d', tk7, os⟩ ∧ IsItemIter h5 (h₁.push { cls := .type "dict_items", data := .fields #[.ref 23] }).objs.size 23 (i + 1) 5 5 (.str nm tk5) (.int va tv) ∧ Fr g L h5 (fun y => if y = "val" then some (.int va tv) else if y = "name" then some (.str nm tk5) else List.lookup y [("mode_const", .int mo t)])) (E := fun _ _ => False) ?_ (fun _ s₂ hs₂ => ?_) (fun _ _ z => z.elim)
    · unfold assignInOrder
      refine wpAny_bind (wpAny_assign_Name (wpAny_storeName_local rfl F6.ns (fun h4 hn4 hs4 => ?_) rfl))
      unfold assignInOrder
      have F8 := F6.set hn4 hs4
      refine wpAny_bind (wpAny_assign_Name (wpAny_storeName_local rfl F8.ns (fun h5 hn5 hs5 => ?_) rfl))
      unfold assignInOrder
      have F9 := F8.set hn5 hs5
      refine wpAny_pure ⟨h5, _, rfl, (hs5.2 _ hIL).trans ((hs4.2 _ hIL).trans he3), ?_⟩
      refine ⟨?_, F9.keep, F9.above⟩
      have e9 : (fun y : Str => if y = ("val" : Str) then some (Value.int va tv) else if y = ("name" : Str) then some (Value.str nm tk5) else List.lookup y [(("mode_const" : Str), Value.int mo t)]) = fun y : Str => if y = ("val" : Str) then some (Value.int va tv) else if y = ("name" : Str) then some (Value.str nm tk5) else if y = ("val" : Str) then vv else if y = ("name" : Str) then nn else List.lookup y [(("mode_const" : Str), Value.int mo t)] := by
        funext y
        by_cases h1 : y = ("val" : Str)
        · simp [h1]
        · by_cases h2 : y = ("name" : Str)
          · simp [h2]
          · simp only [if_neg h1, if_neg h2]
      rw [e9]; exact F9.ns
    · obtain ⟨h5, tk6, rfl, hit5, F7⟩ := hs₂
      have hnm : nm.length ≤ 20 := by
        rcases h4 with rfl | rfl | rfl | rfl <;> (have e2 := congrArg (fun o => o.map (·.1)) hp; simp [mmPairs] at e2; rw [← e2]; decide)
      have hva : (i = 0 ∧ va = 1) ∨ (i = 1 ∧ va = 2) ∨ (i = 2 ∧ va = 4) ∨ (i = 3 ∧ va = 8) := by
        rcases h4 with rfl | rfl | rfl | rfl <;> (have e2 := congrArg (fun o => o.map (·.2)) hp; simp [mmPairs] at e2; omega)
      refine wpAny_mono (Q := GmE g L d' os gn mo va nm tk5 (fun h => IsItemIter h (h₁.push { cls := .type "dict_items", data := .fields #[.ref 23] }).objs.size 23 (i + 1) 5 5 (.str nm tk5) (.int va tv)) (fun y => if y = "val" then some (.int va tv) else if y = "name" then some (.str nm tk5) else List.lookup y [("mode_const", .int mo t)])) (E := fun _ _ => False) ?_ (fun f s₃ hf => ?_) (fun _ _ z => z.elim)
      · have N7 : News g L h5 [] := News.nil
        (try k_fold)
        k_steps
        all_goals ((try dsimp only); first | exact ⟨_, _, rfl, hit5, F7, .inr rfl⟩ | exact ⟨_, _, rfl, hit5, F7, .inl ⟨rfl, Ne.symm (by assumption)⟩⟩)
      · obtain ⟨h6, tk8, rfl, hJ, F10, hf⟩ := hf
        rcases hf with ⟨rfl, hne⟩ | rfl
        · have hi2 : i + 1 ≤ 3 := by omega
          exact ⟨5 - (i + 1), by omega, i + 1, _, _, _, _, h6, tk8, rfl, rfl, hi2, by omega, by omega, by omega, hJ, F10⟩
        · exact ⟨L, _, [], F10, News.nil, ⟨_, _, rfl, hnm⟩, hG, rfl, rfl⟩

  · refine ⟨0, none, none, _, _, _, _, rfl, rfl, by decide, by omega, by omega, by omega, Heap.get?_push_size _ rfl, ?_⟩
    have e : (fun y : Str => if y = ("val" : Str) then (none : Option Value) else if y = ("name" : Str) then none else List.lookup y [("mode_const", Value.int mo t)]) = fun y : Str => List.lookup y (List.reverse [(("mode_const" : Str), Value.int mo t)]) := by
      funext y
      by_cases h1 : y = ("val" : Str)
      · subst h1; rfl
      · by_cases h2 : y = ("name" : Str)
        · subst h2; rfl
        · rw [if_neg h1, if_neg h2]; rfl
    rw [e]; exact F2
end
end
section
local macro_rules | `(tactic| walk_at "getAttr ref") => `(tactic| (k_here; (with_reducible show wpAny _ _ (getAttr (Value.ref _) (PySem.Str.ofString "append_bits") _) _ _ _); k_dflt (refine' Own.get_bmeth ?b1 ?b2 ?b3 ?b4 ?b5 ?b6 ?b7 ?_; (case b1 => k_asm); (case b2 => k_asm); (case b3 => k_asm); (case b4 => k_inst); (case b5 => k_is); (case b6 => exact rfl); (case b7 => k_is)); intro q' h' F' N' l1; (try k_lt l1)))
section
local macro_rules | `(tactic| walk_at "call ref") => `(tactic| (k_here; (with_reducible show wpAny _ _ (call (Value.ref 51) [_, Value.none]) _ _ _); k_dflt (refine' Own.Spec.use0 (dtb_none _ _ rfl ?a1 _) ?a5 ?a6 ?a7 ?a8 ?a9 ?a10 ?a11 ?_; (case a1 => assumption); (case a5 => assumption); (case a6 => k_asm); (case a7 => k_asm); (case a8 => rfl); (case a9 => assumption); (case a10 => omega); (case a11 => omega)); intro v' nw' h' tk' g' hP' F' N' hap' hG'; obtain ⟨D', k1', k2', hv', hD'⟩ := hP'; subst hv'; replace N' := Own.news_pick N' hD'; dsimp only))
section
variable {w : World} {mg mb : Str → Option Value} {bm : Addr} {ob : Obj}
def kanjiV (a b : Int) : Int := let c := a * 256 + b; let d := if c ≤ 40956 then c - 33088 else c - 49472; d / 256 * 192 + d % 256
def hanziV (a b : Int) : Int := let c := a * 256 + b; let d := if c ≤ 43774 then c - 41377 else c - 42657; d / 256 * 96 + d % 256
def pairH (a b : Int) : Bool := let c := a * 256 + b; (41377 ≤ c && c ≤ 43774) || (45217 ≤ c && c ≤ 64254)
theorem kanjiV_lo {a b cc : Int} (e : a * 256 + b = cc) (h0 : 33088 ≤ cc) (h : cc ≤ 40956) : (cc - 33088).fdiv (2 ^ Int.toNat 8) * 192 + Builtin.bitAnd (cc - 33088) 255 = kanjiV a b := by
  rw [bitAnd_m8, Int.fdiv_eq_ediv_of_nonneg _ (by decide)]
  simp only [kanjiV, e, if_pos h]
  rfl
theorem kanjiV_hi {a b cc : Int} (e : a * 256 + b = cc) (h0 : 57408 ≤ cc) (h : cc ≤ 60351) : (cc - 49472).fdiv (2 ^ Int.toNat 8) * 192 + Builtin.bitAnd (cc - 49472) 255 = kanjiV a b := by
  rw [bitAnd_m8, Int.fdiv_eq_ediv_of_nonneg _ (by decide)]
  simp only [kanjiV, e, if_neg (show ¬ cc ≤ 40956 by omega)]
  rfl
theorem hanziV_lo {a b cc : Int} (e : a * 256 + b = cc) (h0 : 41377 ≤ cc) (h : cc ≤ 43774) : (cc - 41377).fdiv (2 ^ Int.toNat 8) * 96 + Builtin.bitAnd (cc - 41377) 255 = hanziV a b := by
  rw [bitAnd_m8, Int.fdiv_eq_ediv_of_nonneg _ (by decide)]
  simp only [hanziV, e, if_pos h]
  rfl
theorem hanziV_hi {a b cc : Int} (e : a * 256 + b = cc) (h0 : 45217 ≤ cc) (h : cc ≤ 64254) : (cc - 42657).fdiv (2 ^ Int.toNat 8) * 96 + Builtin.bitAnd (cc - 42657) 255 = hanziV a b := by
  rw [bitAnd_m8, Int.fdiv_eq_ediv_of_nonneg _ (by decide)]
  simp only [hanziV, e, if_neg (show ¬ cc ≤ 43774 by omega)]
  rfl
abbrev SPX (w : World) (mg mb : Str → Option Value) (bm : Addr) (ob : Obj) (kd ku : Nat) (f : Addr) (pos : List Value) (kw : List (Str × Value)) (sub : Led) (P : Value → Led → Prop) (PE : String → Led → Prop) : Prop :=
  Own.SpecX PySem.Challenge.rw_im0109_02.row.prog w (hd.heap_39 w.params) hd.view_39 LO mg mb bm ob kd ku f pos kw sub P PE
/-- a ValueError, the table still there -/
def VErr (c : String) (nw : Led) : Prop := c = "ValueError" ∧ ∃ ps', TriplesOk ps'.toList ∧ (268, X.tableObj ps') ∈ nw
theorem bits_len (f : Nat → Int) (k i : Nat) : ((List.range i).flatMap fun j => bitsOf (f j) k).length = k * i := by
  induction i with
  | zero => rfl
  | succ i ih => rw [List.range_succ, List.flatMap_append, List.length_append, ih]; simp [bitsOf, Nat.mul_succ]
theorem bits_succ (f : Nat → Int) (k i : Nat) : ((List.range (i + 1)).flatMap fun j => bitsOf (f j) k) = ((List.range i).flatMap fun j => bitsOf (f j) k) ++ bitsOf (f i) k := by
  rw [List.range_succ, List.flatMap_append]; simp
theorem app_led {g h h' : Heap} {L I q bf dbf dd : Addr} {oI : Obj} {bs bs' : List Int} {ps ps' : Array Value}
    (N : News g L h [(I, oI), (q, methodObj (.ref 273) (.ref bf)), (bf, bufObj dbf dd), (dbf, dictOf [] 0), (dd, baObj bs), (268, X.tableObj ps)])
    (hap : ∀ r ∈ [(q, methodObj (.ref 273) (.ref bf)), (bf, bufObj dbf dd), (dbf, dictOf [] 0), (dd, baObj bs), (268, X.tableObj ps)], r.1 ≠ I)
    (hN : ∀ l : Led, (∀ r ∈ l, r ∈ [(bf, bufObj dbf dd), (dbf, dictOf [] 0), (dd, baObj bs'), (268, X.tableObj ps')] ∨ (r ∈ [(I, oI), (q, methodObj (.ref 273) (.ref bf)), (bf, bufObj dbf dd), (dbf, dictOf [] 0), (dd, baObj bs), (268, X.tableObj ps)] ∧ r.1 ∉ [(bf, bufObj dbf dd), (dbf, dictOf [] 0), (dd, baObj bs), (268, X.tableObj ps)].map (·.1))) → News g L h' l) :
    News g L h' [(I, oI), (q, methodObj (.ref 273) (.ref bf)), (bf, bufObj dbf dd), (dbf, dictOf [] 0), (dd, baObj bs'), (268, X.tableObj ps')] := by
  have a1 := hap (bf, bufObj dbf dd) (by k_mem)
  have a2 := hap (dbf, dictOf [] 0) (by k_mem)
  have a3 := hap (dd, baObj bs) (by k_mem)
  have a4 := hap (268, X.tableObj ps) (by k_mem)
  have b1 := news_ne N (a := q) (b := bf) (by k_mem) (by k_mem) (by simp [methodObj])
  have b2 := news_ne N (a := q) (b := dbf) (by k_mem) (by k_mem) (by simp [methodObj, dictOf])
  have b3 := news_ne N (a := q) (b := dd) (by k_mem) (by k_mem) (by simp [methodObj, baObj])
  have b4 := news_ne N (a := q) (b := 268) (by k_mem) (by k_mem) (by intro h; cases h)
  refine hN _ fun r hr => ?_
  simp only [List.mem_cons, List.not_mem_nil, or_false] at hr
  rcases hr with rfl | rfl | rfl | rfl | rfl | rfl
  · refine .inr ⟨by k_mem, ?_⟩
    simp only [List.map_cons, List.map_nil, List.mem_cons, List.not_mem_nil, or_false, not_or]
    exact ⟨fun e => a1 e.symm, fun e => a2 e.symm, fun e => a3 e.symm, fun e => a4 e.symm⟩
  · refine .inr ⟨by k_mem, ?_⟩
    simp only [List.map_cons, List.map_nil, List.mem_cons, List.not_mem_nil, or_false, not_or]
    exact ⟨b1, b2, b3, b4⟩
  · exact .inl (by k_mem)
  · exact .inl (by k_mem)
  · exact .inl (by k_mem)
  · exact .inl (by k_mem)
theorem app_hap {I q bf dbf dd : Addr} {bs bs' : List Int} {ps ps' : Array Value}
    (hap : ∀ r ∈ [(q, methodObj (.ref 273) (.ref bf)), (bf, bufObj dbf dd), (dbf, dictOf [] 0), (dd, baObj bs), (268, X.tableObj ps)], r.1 ≠ I) :
    ∀ r ∈ [(q, methodObj (.ref 273) (.ref bf)), (bf, bufObj dbf dd), (dbf, dictOf [] 0), (dd, baObj bs'), (268, X.tableObj ps')], r.1 ≠ I := by
  intro r hr
  simp only [List.mem_cons, List.not_mem_nil, or_false] at hr
  rcases hr with rfl | rfl | rfl | rfl | rfl
  · exact hap _ (.head _)
  · exact hap _ (.tail _ (.head _))
  · exact hap _ (.tail _ (.tail _ (.head _)))
  · exact hap (dd, baObj bs) (by k_mem)
  · exact hap (268, X.tableObj ps) (by k_mem)
def EncOk (mode : Int) (e : Value) : Prop := if mode = 4 then ∃ t, e = .str (PySem.Str.ofString "iso-8859-1") t else e = .none
/-- a segment of its own: the tuple, its bits -/
def SegMade (bits : List Int) (count mode : Int) (r : Value) (nw : Led) : Prop := ∃ x dx dd tc tm e ps', r = .ref x ∧ TriplesOk ps'.toList ∧ EncOk mode e ∧
  ∀ q ∈ segL x dx (.ref dd) (.int count tc) (.int mode tm) e ++ [(dd, baObj bits), (268, X.tableObj ps')], q ∈ nw
theorem segMade_mk {bits : List Int} {count mode : Int} {x dx dd : Addr} {tc tm : Tok} {e : Value} {ps' : Array Value} {nw rest : Led} (hps : TriplesOk ps'.toList) (he : EncOk mode e)
    (h : ∀ q ∈ segL x dx (.ref dd) (.int count tc) (.int mode tm) e, q ∈ nw) (h1 : (dd, baObj bits) ∈ rest) (h2 : (268, X.tableObj ps') ∈ rest) : SegMade bits count mode (.ref x) (nw ++ rest) := by
  refine ⟨x, dx, dd, tc, tm, e, ps', rfl, hps, he, fun q hq => ?_⟩
  rcases List.mem_append.mp hq with hq | hq
  · exact List.mem_append_left _ (h q hq)
  · refine List.mem_append_right _ ?_
    simp only [List.mem_cons, List.not_mem_nil, or_false] at hq
    rcases hq with rfl | rfl
    · exact h1
    · exact h2
end
section
local macro_rules | `(tactic| walk_at "my_dummy") => `(tactic| fail)
variable {w : World} {mg mb : Str → Option Value} {bm : Addr} {ob : Obj}
theorem mksegN4_spec (b : Array UInt8) (n : Nat) (hb : b.size = 2 * n) (hn0 : 0 < n) (hn : n ≤ 8) (hc : ∀ i, i < n → 161 ≤ (b.getD (2 * i + 1) 0).toNat) (hall : ((List.range n).all fun i => pairK ((b.getD (2 * i) 0).toNat : Int) ((b.getD (2 * i + 1) 0).toNat : Int)) = false) (t : Tok) (ps : Array Value) (hps : TriplesOk ps.toList)
    (pos : List Value) (hpos : pos = [.bytes b t, .none] ∨ pos = [.bytes b t, .none, .none]) : SPR w mg mb bm ob 8 120 59 pos [] [(268, X.tableObj ps)]
    (SegMade ((List.range b.size).flatMap fun j => bitsOf ((b.getD j 0).toNat : Int) 8) (2 * n : Nat) 4) := by
  w_on
  delta SPR
  k_fill
  refine' Own.specR_of (binds := [("data", .bytes b t), ("mode", .none), ("encoding", .none)]) ?ho ?hcd ?hbind ?hloc ?hcell ?hb ?hco ?hgen ?hk ?hkd; (case ho => k_is); (case hcd => k_is); (case hbind => exact (fun s X => by first | (rcases hpos with rfl | rfl <;> first | exact binds_K X rfl (by k_is) rfl rfl rfl | exact BindsTo.of_eq rfl) | exact binds_K X rfl (by k_is) rfl rfl rfl | exact BindsTo.of_eq rfl)); (case hloc => exact (locs rfl)); (case hcell => decide); (case hco => exact rfl); (case hgen => exact rfl); (case hk => exact rfl); (case hkd => decide)
  intro dp un gd L outer A₀ base g h₁ gn d' tk os C F N hsub hG hdp hu
  have X' := C.X
  have T' := C.T
  have B' := C.B
  have M' := C.M
  have hlen : (KBw.bInts b).length = 2 * n := by rw [KBw.ints_length, hb]
  have hl1 : (KBw.bInts b).length ≤ 16 := by omega
  have hc0 : b.getD 1 0 ∈ b := by
    have : 1 < b.size := by omega
    simp [Array.getD, this]
  have hcnt : (KBw.bInts b).length = 2 * n := hlen
  refine wpR_execs_app (l₁ := [_, _, _]) (l₂ := _) ?_
  (try dsimp only)
  (try k_fold)
  k_steps
  have hGn := ‹AllBare _›
  have F1 := ‹Fr g L _ _›
  have N1 := ‹News g L _ _›
  refine wpR_execs_cons (wpR_Assign_Name (wpR_IfExp (wpR_of ?_)))
  k_fold
  k_steps
  refine wpR_CallName ?_
  k_fold
  k_steps
  refine wpR_callK (K := Mine02.hd.heap_39 w.params) (by k_is) ?_
  k_fold
  k_steps
  show wpR _ _ (call (.ref 85) [.bytes b t] []) _ _ _
  refine Own.SpecR.useV (findmode_spec b n hb hn0 hn (b.getD 1 0) hc0 (hc 0 hn0) t) C F1 N1 rfl hGn (by omega) (by omega) fun v nw h' tk' g' hP F' N' hG' => ?_
  obtain ⟨tkm, rfl⟩ := hP
  clear N1 F1 hGn
  rw [if_neg (by rw [hall]; decide)]
  (try k_fold)
  k_steps
  refine wpR_execs_app (l₁ := [_, _, _]) (l₂ := _) ?_
  (try k_fold)
  k_steps
  have hGn := ‹AllBare _›
  have F1 := ‹Fr g L _ _›
  have N1 := ‹News g L _ _›
  refine wpR_execs_cons (wpR_Assign_Name (wpR_CallName ?_))
  k_fold
  k_steps
  refine wpR_callK0 (K := Mine02.hd.heap_39 w.params) (C.X.keeps F1.keep) (by k_is) ?_
  refine Own.SpecR.use0 (buf_spec) C F1 N1 rfl hGn (by omega) (by omega) fun v nw h' tk' g' hP F' N' hap hG' => ?_
  obtain ⟨bf, dbf, dd, rfl, hq⟩ := hP
  have N2 : News g L h' [(bf, bufObj dbf dd), (dbf, dictOf [] 0), (dd, baObj []), (268, X.tableObj ps)] := news_sub N' (by
    intro q hq'
    simp only [List.mem_cons, List.not_mem_nil, or_false] at hq'
    rcases hq' with rfl | rfl | rfl | rfl
    · exact List.mem_append_left _ (hq _ (by k_mem))
    · exact List.mem_append_left _ (hq _ (by k_mem))
    · exact List.mem_append_left _ (hq _ (by k_mem))
    · exact List.mem_append_right _ (by k_mem))
  clear N' hap N1 F1 hGn
  dsimp only
  (try k_fold)
  k_steps
  refine wpR_execs_app (l₁ := [_]) (l₂ := [_, _]) ?_
  (try k_fold)
  k_steps
  refine wpR_execs_cons (wpR_If (wpR_of ?_))
  k_fold
  k_steps
  refine wpR_execs_cons (wpR_If (wpR_of ?_))
  k_fold
  k_steps
  refine wpR_execs_cons (wpR_If (wpR_of ?_))
  k_fold
  k_steps
  have hGn := ‹AllBare _›
  refine wpR_execs_cons (wpR_For ?_)
  k_fold
  k_steps
  have F1 := ‹Fr g L _ _›
  have N1 := ‹News g L _ _›
  refine KBw.pyIter_bytes ?_
  have F2 := keep_fr F1 (h' := _) fun b' o e => Heap.get?_push_of_some (biObj b t 0) e
  have N2 := news_fresh F1 N1 (fun b' o e => Heap.get?_push_of_some (biObj b t 0) e) (Heap.get?_push_size _ rfl)
  have hap := fun (q : Addr × Obj) hq => Nat.ne_of_lt (Heap.lt_size (N1 q hq).1)
  refine forS (n := b.size) (ob := fun i => biObj b t i) [] (Steps.bytes rfl _ b t) rfl rfl
      (fun i nw => ∃ ps', TriplesOk ps'.toList ∧ nw = [(_, methodObj (.ref 273) (.ref bf)), (bf, bufObj dbf dd), (dbf, dictOf [] 0), (dd, baObj ((List.range i).flatMap fun j => bitsOf ((b.getD j 0).toNat : Int) 8)), (268, X.tableObj ps')]) (fun _ _ _ _ _ => trivial) F2 N2 hap hGn ⟨ps, hps, rfl⟩ ?_ ?_
  · rintro i v u news₁ h3 tk3 gn3 hi ⟨c, uc, hc, rfl⟩ ⟨ps', hps', rfl⟩ hap3 F3 N3 hG3
    dsimp only at N3 F3
    refine wpR_execs_cons (wpR_Expr (wpR_CallName ?_))
    k_fold
    k_steps
    refine wpR_callM (K := Mine02.hd.heap_39 w.params) (g := 273) (self := .ref bf) (h₀ := g) (L := L) (news := []) (by k_is) ?_
    k_fold
    k_steps
    have F5 := ‹Fr g L h3 _›
    have N5 := ‹News g L h3 _›
    have hcb : c = b.getD i 0 := by simp [Array.getD_eq_getD_getElem?, hc]
    refine Own.SpecR.useM (f := 273) (self := .ref bf) (append_bits_spec bf dbf dd ((List.range i).flatMap fun j => bitsOf ((b.getD j 0).toNat : Int) 8) (c.toNat : Int) 8 _ _ ps' (by decide) (by rw [bits_len (fun j => ((b.getD j 0).toNat : Int))]; omega) hps') (N5.get (by k_mem)) C F5 N5 rfl (by walk_at "my_mems") hG3 (by omega) (by omega) fun v nw h' tk' g' hP F' N' hap' hG' => ?_
    obtain ⟨rfl, ps2, rfl, hps2⟩ := hP
    refine ⟨rfl, wpR_execs_nil ?_⟩
    refine ⟨_, _, ⟨ps2, hps2, rfl⟩, ?_, ?_, F', ?_, hG', rfl, rfl⟩
    · intro y h1 h2; simp only [if_neg h1, h2, Bool.false_eq_true, if_false]
    · exact app_hap hap3
    · have := app_led (bs' := (List.range (i + 1)).flatMap fun j => bitsOf ((b.getD j 0).toNat : Int) 8) N5 hap3 (ps' := ps2) (by rw [bits_succ (fun j => ((b.getD j 0).toNat : Int)), ← hcb]; exact N')
      exact this
  · intro u news' h4 tk4 gn4 hJ4 F4 N4 hG4
    obtain ⟨ps', hps', rfl⟩ := hJ4
    dsimp only
    repeat (refine wpR_execs_nil ?_; dsimp only)
    refine wpR_execs_cons (wpR_Return (wpR_CallName ?_))
    k_fold
    k_steps
    refine wpR_callK (K := Mine02.hd.heap_39 w.params) (by k_is) ?_
    k_fold
    k_steps
    dsimp only
    simp only [List.cons_append, List.nil_append]
    refine Own.Spec.useS (getbits_spec bf dbf dd) (fun _ _ hp q hq => by obtain ⟨_, rfl⟩ := hp; exact hq) C F4 N4 rfl (by walk_at "my_mems") hG4 (by omega) (by omega) fun v5 nw5 h5 tk5 g5 hP5 F5 N5 hG5 => ?_
    obtain ⟨rfl, rfl⟩ := hP5
    dsimp only
    k_steps
    refine wpR_of (Own.Spec.use0 (make_seg_spec _ _ _ _) C F5 N5 rfl hG5 (by omega) (by omega) fun v6 nw6 h6 tk6 g6 hP6 F6 N6 hap6 hG6 => ?_)
    obtain ⟨sx, sdx, rfl, hsx⟩ := hP6
    dsimp only [retOf]
    refine ⟨_, _, _, F6, N6, ?_, hG6, rfl, rfl⟩
    rw [hcnt] at hsx
    exact segMade_mk hps' ⟨_, rfl⟩ hsx (by k_mem) (by k_mem)
end
section
variable {w : World} {mg mb : Str → Option Value} {bm : Addr} {ob : Obj}
theorem mkseg4_spec (b : Array UInt8) (n : Nat) (hb : b.size = 2 * n) (hn0 : 0 < n) (hn : n ≤ 8) (t tm : Tok) (ps : Array Value) (hps : TriplesOk ps.toList)
    (pos : List Value) (hpos : pos = [.bytes b t, .int 4 tm] ∨ pos = [.bytes b t, .int 4 tm, .none]) : SPR w mg mb bm ob 8 120 59 pos [] [(268, X.tableObj ps)]
    (SegMade ((List.range b.size).flatMap fun j => bitsOf ((b.getD j 0).toNat : Int) 8) (2 * n : Nat) 4) := by
  w_on
  delta SPR
  k_fill
  refine' Own.specR_of (binds := [("data", .bytes b t), ("mode", .int 4 tm), ("encoding", .none)]) ?ho ?hcd ?hbind ?hloc ?hcell ?hb ?hco ?hgen ?hk ?hkd; (case ho => k_is); (case hcd => k_is); (case hbind => exact (fun s X => by first | (rcases hpos with rfl | rfl <;> first | exact binds_K X rfl (by k_is) rfl rfl rfl | exact BindsTo.of_eq rfl) | exact binds_K X rfl (by k_is) rfl rfl rfl | exact BindsTo.of_eq rfl)); (case hloc => exact (locs rfl)); (case hcell => decide); (case hco => exact rfl); (case hgen => exact rfl); (case hk => exact rfl); (case hkd => decide)
  intro dp un gd L outer A₀ base g h₁ gn d' tk os C F N hsub hG hdp hu
  have X' := C.X
  have T' := C.T
  have B' := C.B
  have M' := C.M
  have hlen : (KBw.bInts b).length = 2 * n := by rw [KBw.ints_length, hb]
  have hl1 : (KBw.bInts b).length ≤ 16 := by omega
  have hcnt : (KBw.bInts b).length = 2 * n := hlen
  refine wpR_execs_app (l₁ := [_, _, _, _, _, _, _]) (l₂ := _) ?_
  (try dsimp only)
  (try k_fold)
  k_steps
  have hGn := ‹AllBare _›
  have F1 := ‹Fr g L _ _›
  have N1 := ‹News g L _ _›
  refine wpR_execs_cons (wpR_Assign_Name (wpR_CallName ?_))
  k_fold
  k_steps
  refine wpR_callK0 (K := Mine02.hd.heap_39 w.params) (C.X.keeps F1.keep) (by k_is) ?_
  refine Own.SpecR.use0 (buf_spec) C F1 N1 rfl hGn (by omega) (by omega) fun v nw h' tk' g' hP F' N' hap hG' => ?_
  obtain ⟨bf, dbf, dd, rfl, hq⟩ := hP
  have N2 : News g L h' [(bf, bufObj dbf dd), (dbf, dictOf [] 0), (dd, baObj []), (268, X.tableObj ps)] := news_sub N' (by
    intro q hq'
    simp only [List.mem_cons, List.not_mem_nil, or_false] at hq'
    rcases hq' with rfl | rfl | rfl | rfl
    · exact List.mem_append_left _ (hq _ (by k_mem))
    · exact List.mem_append_left _ (hq _ (by k_mem))
    · exact List.mem_append_left _ (hq _ (by k_mem))
    · exact List.mem_append_right _ (by k_mem))
  clear N' hap N1 F1 hGn
  dsimp only
  (try k_fold)
  k_steps
  refine wpR_execs_app (l₁ := [_]) (l₂ := [_, _]) ?_
  (try k_fold)
  k_steps
  refine wpR_execs_cons (wpR_If (wpR_of ?_))
  k_fold
  k_steps
  refine wpR_execs_cons (wpR_If (wpR_of ?_))
  k_fold
  k_steps
  refine wpR_execs_cons (wpR_If (wpR_of ?_))
  k_fold
  k_steps
  have hGn := ‹AllBare _›
  refine wpR_execs_cons (wpR_For ?_)
  k_fold
  k_steps
  have F1 := ‹Fr g L _ _›
  have N1 := ‹News g L _ _›
  refine KBw.pyIter_bytes ?_
  have F2 := keep_fr F1 (h' := _) fun b' o e => Heap.get?_push_of_some (biObj b t 0) e
  have N2 := news_fresh F1 N1 (fun b' o e => Heap.get?_push_of_some (biObj b t 0) e) (Heap.get?_push_size _ rfl)
  have hap := fun (q : Addr × Obj) hq => Nat.ne_of_lt (Heap.lt_size (N1 q hq).1)
  refine forS (n := b.size) (ob := fun i => biObj b t i) [] (Steps.bytes rfl _ b t) rfl rfl
      (fun i nw => ∃ ps', TriplesOk ps'.toList ∧ nw = [(_, methodObj (.ref 273) (.ref bf)), (bf, bufObj dbf dd), (dbf, dictOf [] 0), (dd, baObj ((List.range i).flatMap fun j => bitsOf ((b.getD j 0).toNat : Int) 8)), (268, X.tableObj ps')]) (fun _ _ _ _ _ => trivial) F2 N2 hap hGn ⟨ps, hps, rfl⟩ ?_ ?_
  · rintro i v u news₁ h3 tk3 gn3 hi ⟨c, uc, hc, rfl⟩ ⟨ps', hps', rfl⟩ hap3 F3 N3 hG3
    dsimp only at N3 F3
    refine wpR_execs_cons (wpR_Expr (wpR_CallName ?_))
    k_fold
    k_steps
    refine wpR_callM (K := Mine02.hd.heap_39 w.params) (g := 273) (self := .ref bf) (h₀ := g) (L := L) (news := []) (by k_is) ?_
    k_fold
    k_steps
    have F5 := ‹Fr g L h3 _›
    have N5 := ‹News g L h3 _›
    have hcb : c = b.getD i 0 := by simp [Array.getD_eq_getD_getElem?, hc]
    refine Own.SpecR.useM (f := 273) (self := .ref bf) (append_bits_spec bf dbf dd ((List.range i).flatMap fun j => bitsOf ((b.getD j 0).toNat : Int) 8) (c.toNat : Int) 8 _ _ ps' (by decide) (by rw [bits_len (fun j => ((b.getD j 0).toNat : Int))]; omega) hps') (N5.get (by k_mem)) C F5 N5 rfl (by walk_at "my_mems") hG3 (by omega) (by omega) fun v nw h' tk' g' hP F' N' hap' hG' => ?_
    obtain ⟨rfl, ps2, rfl, hps2⟩ := hP
    refine ⟨rfl, wpR_execs_nil ?_⟩
    refine ⟨_, _, ⟨ps2, hps2, rfl⟩, ?_, ?_, F', ?_, hG', rfl, rfl⟩
    · intro y h1 h2; simp only [if_neg h1, h2, Bool.false_eq_true, if_false]
    · exact app_hap hap3
    · have := app_led (bs' := (List.range (i + 1)).flatMap fun j => bitsOf ((b.getD j 0).toNat : Int) 8) N5 hap3 (ps' := ps2) (by rw [bits_succ (fun j => ((b.getD j 0).toNat : Int)), ← hcb]; exact N')
      exact this
  · intro u news' h4 tk4 gn4 hJ4 F4 N4 hG4
    obtain ⟨ps', hps', rfl⟩ := hJ4
    dsimp only
    repeat (refine wpR_execs_nil ?_; dsimp only)
    refine wpR_execs_cons (wpR_Return (wpR_CallName ?_))
    k_fold
    k_steps
    refine wpR_callK (K := Mine02.hd.heap_39 w.params) (by k_is) ?_
    k_fold
    k_steps
    dsimp only
    simp only [List.cons_append, List.nil_append]
    refine Own.Spec.useS (getbits_spec bf dbf dd) (fun _ _ hp q hq => by obtain ⟨_, rfl⟩ := hp; exact hq) C F4 N4 rfl (by walk_at "my_mems") hG4 (by omega) (by omega) fun v5 nw5 h5 tk5 g5 hP5 F5 N5 hG5 => ?_
    obtain ⟨rfl, rfl⟩ := hP5
    dsimp only
    k_steps
    refine wpR_of (Own.Spec.use0 (make_seg_spec _ _ _ _) C F5 N5 rfl hG5 (by omega) (by omega) fun v6 nw6 h6 tk6 g6 hP6 F6 N6 hap6 hG6 => ?_)
    obtain ⟨sx, sdx, rfl, hsx⟩ := hP6
    dsimp only [retOf]
    refine ⟨_, _, _, F6, N6, ?_, hG6, rfl, rfl⟩
    rw [hcnt] at hsx
    exact segMade_mk hps' ⟨_, rfl⟩ hsx (by k_mem) (by k_mem)
end
section
local macro_rules | `(tactic| walk_at "subscriptTail") => `(tactic| (k_here; (with_reducible show wpAny _ _ (subscriptTail _ _ (Value.bytes _ _) (Value.int (0 + Nat.cast _ * 2) _)) _ _ _); refine' Own.item_at (2 * _) ?i1 ?i2 ?i3 ?_; (case i1 => (rw [Int.zero_add, Int.mul_comm]; exact rfl)); (case i2 => omega); (case i3 => omega); intro _ _))
local macro_rules | `(tactic| walk_at "subscriptTail") => `(tactic| (k_here; (with_reducible show wpAny _ _ (subscriptTail _ _ (Value.bytes _ _) (Value.int (0 + Nat.cast _ * 2 + 1) _)) _ _ _); refine' Own.item_at (2 * _ + 1) ?i1 ?i2 ?i3 ?_; (case i1 => (rw [Int.zero_add, Int.mul_comm]; exact rfl)); (case i2 => omega); (case i3 => omega); intro _ _))
section
variable {w : World} {mg mb : Str → Option Value} {bm : Addr} {ob : Obj}
theorem mkseg8_spec (b : Array UInt8) (n : Nat) (hb : b.size = 2 * n) (hn0 : 0 < n) (hn : n ≤ 8) (hc : ∀ i, i < n → 161 ≤ (b.getD (2 * i + 1) 0).toNat) (hall : ((List.range n).all fun i => pairK ((b.getD (2 * i) 0).toNat : Int) ((b.getD (2 * i + 1) 0).toNat : Int)) = true) (t tm : Tok) (ps : Array Value) (hps : TriplesOk ps.toList)
    (pos : List Value) (hpos : pos = [.bytes b t, .int 8 tm] ∨ pos = [.bytes b t, .int 8 tm, .none]) : SPR w mg mb bm ob 8 120 59 pos [] [(268, X.tableObj ps)]
    (SegMade ((List.range n).flatMap fun j => bitsOf (kanjiV ((b.getD (2 * j) 0).toNat : Int) ((b.getD (2 * j + 1) 0).toNat : Int)) 13) n 8) := by
  w_on
  delta SPR
  k_fill
  refine' Own.specR_of (binds := [("data", .bytes b t), ("mode", .int 8 tm), ("encoding", .none)]) ?ho ?hcd ?hbind ?hloc ?hcell ?hb ?hco ?hgen ?hk ?hkd; (case ho => k_is); (case hcd => k_is); (case hbind => exact (fun s X => by first | (rcases hpos with rfl | rfl <;> first | exact binds_K X rfl (by k_is) rfl rfl rfl | exact BindsTo.of_eq rfl) | exact binds_K X rfl (by k_is) rfl rfl rfl | exact BindsTo.of_eq rfl)); (case hloc => exact (locs rfl)); (case hcell => decide); (case hco => exact rfl); (case hgen => exact rfl); (case hk => exact rfl); (case hkd => decide)
  intro dp un gd L outer A₀ base g h₁ gn d' tk os C F N hsub hG hdp hu
  have X' := C.X
  have T' := C.T
  have B' := C.B
  have M' := C.M
  have hlen : (KBw.bInts b).length = 2 * n := by rw [KBw.ints_length, hb]
  have hl1 : (KBw.bInts b).length ≤ 16 := by omega
  have hc0 : b.getD 1 0 ∈ b := by
    have : 1 < b.size := by omega
    simp [Array.getD, this]
  have hcnt : ((KBw.bInts b).length : Int).fdiv 2 = (n : Int) := by rw [hlen, Int.fdiv_eq_ediv_of_nonneg _ (by decide)]; omega
  refine wpR_execs_app (l₁ := [_, _, _]) (l₂ := _) ?_
  (try dsimp only)
  (try k_fold)
  k_steps
  have hGn := ‹AllBare _›
  have F1 := ‹Fr g L _ _›
  have N1 := ‹News g L _ _›
  refine wpR_execs_cons (wpR_Assign_Name (wpR_IfExp (wpR_of ?_)))
  k_fold
  k_steps
  refine wpR_CallName ?_
  k_fold
  k_steps
  refine wpR_callK (K := Mine02.hd.heap_39 w.params) (by k_is) ?_
  k_fold
  k_steps
  show wpR _ _ (call (.ref 85) [.bytes b t] []) _ _ _
  refine Own.SpecR.useV (findmode_spec b n hb hn0 hn (b.getD 1 0) hc0 (hc 0 hn0) t) C F1 N1 rfl hGn (by omega) (by omega) fun v nw h' tk' g' hP F' N' hG' => ?_
  obtain ⟨tkm, rfl⟩ := hP
  clear N1 F1 hGn
  rw [if_pos hall]
  (try k_fold)
  k_steps
  refine wpR_execs_app (l₁ := [_, _, _]) (l₂ := _) ?_
  (try k_fold)
  k_steps
  have hGn := ‹AllBare _›
  have F1 := ‹Fr g L _ _›
  have N1 := ‹News g L _ _›
  refine wpR_execs_cons (wpR_Assign_Name (wpR_CallName ?_))
  k_fold
  k_steps
  refine wpR_callK0 (K := Mine02.hd.heap_39 w.params) (C.X.keeps F1.keep) (by k_is) ?_
  refine Own.SpecR.use0 (buf_spec) C F1 N1 rfl hGn (by omega) (by omega) fun v nw h' tk' g' hP F' N' hap hG' => ?_
  obtain ⟨bf, dbf, dd, rfl, hq⟩ := hP
  have N2 : News g L h' [(bf, bufObj dbf dd), (dbf, dictOf [] 0), (dd, baObj []), (268, X.tableObj ps)] := news_sub N' (by
    intro q hq'
    simp only [List.mem_cons, List.not_mem_nil, or_false] at hq'
    rcases hq' with rfl | rfl | rfl | rfl
    · exact List.mem_append_left _ (hq _ (by k_mem))
    · exact List.mem_append_left _ (hq _ (by k_mem))
    · exact List.mem_append_left _ (hq _ (by k_mem))
    · exact List.mem_append_right _ (by k_mem))
  clear N' hap N1 F1 hGn
  dsimp only
  (try k_fold)
  k_steps
  refine wpR_execs_app (l₁ := [_]) (l₂ := [_, _]) ?_
  (try k_fold)
  k_steps
  refine wpR_execs_cons (wpR_If (wpR_of ?_))
  k_fold
  k_steps
  refine wpR_execs_cons (wpR_If (wpR_of ?_))
  k_fold
  k_steps
  refine wpR_execs_cons (wpR_If (wpR_of ?_))
  k_fold
  k_steps
  refine wpR_execs_cons (wpR_If (wpR_of ?_))
  k_fold
  k_steps
  have hGn := ‹AllBare _›
  refine wpR_execs_cons (wpR_For ?_)
  k_fold
  k_steps
  have F1 := ‹Fr g L _ _›
  have N1 := ‹News g L _ _›
  have hr := ‹IsRange _ _ 0 _ 2 _ _ _›
  refine wpAny_pyIter_range hr (by rw [hlen]; exact small2 n hn) ?_
  rw [hlen, size2 n hn]
  have F2 := keep_fr F1 (h' := _) fun b o e => Heap.get?_push_of_some (riObj 0 n 2) e
  have N2 := news_fresh F1 N1 (fun b o e => Heap.get?_push_of_some (riObj 0 n 2) e) (Heap.get?_push_size _ rfl)
  have hap := fun (q : Addr × Obj) hq => Nat.ne_of_lt (Heap.lt_size (N1 q hq).1)
  refine forS (n := n) (ob := fun i => riObj (0 + (i : Nat) * 2) ((n : Int) - (i : Nat)) 2) [Str.ofString "code", Str.ofString "diff"] (Steps.range rfl _ 0 2 n) rfl rfl
      (fun i nw => ∃ ps', TriplesOk ps'.toList ∧ nw = [(_, methodObj (.ref 273) (.ref bf)), (bf, bufObj dbf dd), (dbf, dictOf [] 0), (dd, baObj ((List.range i).flatMap fun j => bitsOf (kanjiV ((b.getD (2 * j) 0).toNat : Int) ((b.getD (2 * j + 1) 0).toNat : Int)) 13)), (268, X.tableObj ps')]) (fun _ _ _ _ _ => trivial) F2 (by simpa using N2) hap hGn ⟨ps, hps, rfl⟩ ?_ ?_
  · rintro i v u news₁ h3 tk3 gn3 hi ⟨t', rfl⟩ ⟨ps', hps', rfl⟩ hap3 F3 N3 hG3
    dsimp only at N3 F3
    have hc0' : (b.getD (2 * i) 0).toNat < 256 := UInt8.toNat_lt _
    have hc1' : (b.getD (2 * i + 1) 0).toNat < 256 := UInt8.toNat_lt _
    have hpk := List.all_eq_true.mp hall i (List.mem_range.mpr hi)
    generalize hcc : ((b.getD (2 * i) 0).toNat : Int) * 256 + ((b.getD (2 * i + 1) 0).toNat : Int) = cc at hpk
    simp only [pairK, Bool.or_eq_true, Bool.and_eq_true, decide_eq_true_eq, hcc] at hpk
    refine wpR_execs_cons (wpR_Assign_Name (wpR_of (wpAny_mono (Q := IntAt cc h3 gn3 d' os) ?_ ?_ (fun _ _ e => e))))
    · (try k_fold)
      k_steps
      exact ⟨_, _, congrArg (fun z => Value.int z _) ((or_bytes _ _ hc1').trans hcc), rfl⟩
    rintro v s' ⟨t5, tk5, rfl, rfl⟩
    (try k_fold)
    k_steps
    clear hall
    rcases hpk with hpk | hpk
    · refine wpR_execs_app (l₁ := [_]) (l₂ := [_]) ?_
      (try k_fold)
      k_steps
      refine wpR_execs_cons (wpR_Expr (wpR_CallName ?_))
      k_fold
      k_steps
      refine wpR_callM (K := Mine02.hd.heap_39 w.params) (g := 273) (self := .ref bf) (h₀ := g) (L := L) (news := []) (by k_is) ?_
      k_fold
      k_steps
      have F5 := ‹Fr g L _ _›
      have N5 := ‹News g L _ _›
      rw [kanjiV_lo hcc hpk.1 hpk.2]
      refine Own.SpecR.useM (f := 273) (self := .ref bf) (append_bits_spec bf dbf dd ((List.range i).flatMap fun j => bitsOf (kanjiV ((b.getD (2 * j) 0).toNat : Int) ((b.getD (2 * j + 1) 0).toNat : Int)) 13) (kanjiV ((b.getD (2 * i) 0).toNat : Int) ((b.getD (2 * i + 1) 0).toNat : Int)) 13 _ _ ps' (by decide) (by rw [bits_len (fun j => kanjiV ((b.getD (2 * j) 0).toNat : Int) ((b.getD (2 * j + 1) 0).toNat : Int))]; omega) hps') (N5.get (by k_mem)) C F5 N5 rfl (by walk_at "my_mems") hG3 (by omega) (by omega) fun v nw h' tk' g' hP F' N' hap' hG' => ?_
      obtain ⟨rfl, ps2, rfl, hps2⟩ := hP
      refine ⟨rfl, wpR_execs_nil ?_⟩
      refine ⟨_, _, ⟨ps2, hps2, rfl⟩, ?_, ?_, F', ?_, hG', rfl, rfl⟩
      · intro y h1 h2
        have h3 : y ≠ Str.ofString "code" := by rintro rfl; simp at h2
        have h4 : y ≠ Str.ofString "diff" := by rintro rfl; simp at h2
        simp only [if_neg h1, if_neg h3, if_neg h4, h2, Bool.false_eq_true, if_false]
      · exact app_hap hap3
      · have := app_led (bs' := (List.range (i + 1)).flatMap fun j => bitsOf (kanjiV ((b.getD (2 * j) 0).toNat : Int) ((b.getD (2 * j + 1) 0).toNat : Int)) 13) N5 hap3 (ps' := ps2) (by rw [bits_succ (fun j => kanjiV ((b.getD (2 * j) 0).toNat : Int) ((b.getD (2 * j + 1) 0).toNat : Int))]; exact N')
        exact this
    · refine wpR_execs_app (l₁ := [_]) (l₂ := [_]) ?_
      (try k_fold)
      k_steps
      refine wpR_execs_cons (wpR_Expr (wpR_CallName ?_))
      k_fold
      k_steps
      refine wpR_callM (K := Mine02.hd.heap_39 w.params) (g := 273) (self := .ref bf) (h₀ := g) (L := L) (news := []) (by k_is) ?_
      k_fold
      k_steps
      have F5 := ‹Fr g L _ _›
      have N5 := ‹News g L _ _›
      rw [kanjiV_hi hcc hpk.1 hpk.2]
      refine Own.SpecR.useM (f := 273) (self := .ref bf) (append_bits_spec bf dbf dd ((List.range i).flatMap fun j => bitsOf (kanjiV ((b.getD (2 * j) 0).toNat : Int) ((b.getD (2 * j + 1) 0).toNat : Int)) 13) (kanjiV ((b.getD (2 * i) 0).toNat : Int) ((b.getD (2 * i + 1) 0).toNat : Int)) 13 _ _ ps' (by decide) (by rw [bits_len (fun j => kanjiV ((b.getD (2 * j) 0).toNat : Int) ((b.getD (2 * j + 1) 0).toNat : Int))]; omega) hps') (N5.get (by k_mem)) C F5 N5 rfl (by walk_at "my_mems") hG3 (by omega) (by omega) fun v nw h' tk' g' hP F' N' hap' hG' => ?_
      obtain ⟨rfl, ps2, rfl, hps2⟩ := hP
      refine ⟨rfl, wpR_execs_nil ?_⟩
      refine ⟨_, _, ⟨ps2, hps2, rfl⟩, ?_, ?_, F', ?_, hG', rfl, rfl⟩
      · intro y h1 h2
        have h3 : y ≠ Str.ofString "code" := by rintro rfl; simp at h2
        have h4 : y ≠ Str.ofString "diff" := by rintro rfl; simp at h2
        simp only [if_neg h1, if_neg h3, if_neg h4, h2, Bool.false_eq_true, if_false]
      · exact app_hap hap3
      · have := app_led (bs' := (List.range (i + 1)).flatMap fun j => bitsOf (kanjiV ((b.getD (2 * j) 0).toNat : Int) ((b.getD (2 * j + 1) 0).toNat : Int)) 13) N5 hap3 (ps' := ps2) (by rw [bits_succ (fun j => kanjiV ((b.getD (2 * j) 0).toNat : Int) ((b.getD (2 * j + 1) 0).toNat : Int))]; exact N')
        exact this
  · intro u news' h4 tk4 gn4 hJ4 F4 N4 hG4
    obtain ⟨ps', hps', rfl⟩ := hJ4
    dsimp only
    repeat (refine wpR_execs_nil ?_; dsimp only)
    refine wpR_execs_cons (wpR_Return (wpR_CallName ?_))
    k_fold
    k_steps
    refine wpR_callK (K := Mine02.hd.heap_39 w.params) (by k_is) ?_
    k_fold
    k_steps
    dsimp only
    simp only [List.cons_append, List.nil_append]
    refine Own.Spec.useS (getbits_spec bf dbf dd) (fun _ _ hp q hq => by obtain ⟨_, rfl⟩ := hp; exact hq) C F4 N4 rfl (by walk_at "my_mems") hG4 (by omega) (by omega) fun v5 nw5 h5 tk5 g5 hP5 F5 N5 hG5 => ?_
    obtain ⟨rfl, rfl⟩ := hP5
    dsimp only
    k_steps
    refine wpR_of (Own.Spec.use0 (make_seg_spec _ _ _ _) C F5 N5 rfl hG5 (by omega) (by omega) fun v6 nw6 h6 tk6 g6 hP6 F6 N6 hap6 hG6 => ?_)
    obtain ⟨sx, sdx, rfl, hsx⟩ := hP6
    dsimp only [retOf]
    refine ⟨_, _, _, F6, N6, ?_, hG6, rfl, rfl⟩
    rw [hcnt] at hsx
    exact segMade_mk hps' rfl hsx (by k_mem) (by k_mem)
end
section
variable {w : World} {mg mb : Str → Option Value} {bm : Addr} {ob : Obj}
theorem mksegN8_spec (b : Array UInt8) (n : Nat) (hb : b.size = 2 * n) (hn0 : 0 < n) (hn : n ≤ 8) (hc : ∀ i, i < n → 161 ≤ (b.getD (2 * i + 1) 0).toNat) (hall : ((List.range n).all fun i => pairK ((b.getD (2 * i) 0).toNat : Int) ((b.getD (2 * i + 1) 0).toNat : Int)) = true) (t : Tok) (ps : Array Value) (hps : TriplesOk ps.toList)
    (pos : List Value) (hpos : pos = [.bytes b t, .none] ∨ pos = [.bytes b t, .none, .none]) : SPR w mg mb bm ob 8 120 59 pos [] [(268, X.tableObj ps)]
    (SegMade ((List.range n).flatMap fun j => bitsOf (kanjiV ((b.getD (2 * j) 0).toNat : Int) ((b.getD (2 * j + 1) 0).toNat : Int)) 13) n 8) := by
  w_on
  delta SPR
  k_fill
  refine' Own.specR_of (binds := [("data", .bytes b t), ("mode", .none), ("encoding", .none)]) ?ho ?hcd ?hbind ?hloc ?hcell ?hb ?hco ?hgen ?hk ?hkd; (case ho => k_is); (case hcd => k_is); (case hbind => exact (fun s X => by first | (rcases hpos with rfl | rfl <;> first | exact binds_K X rfl (by k_is) rfl rfl rfl | exact BindsTo.of_eq rfl) | exact binds_K X rfl (by k_is) rfl rfl rfl | exact BindsTo.of_eq rfl)); (case hloc => exact (locs rfl)); (case hcell => decide); (case hco => exact rfl); (case hgen => exact rfl); (case hk => exact rfl); (case hkd => decide)
  intro dp un gd L outer A₀ base g h₁ gn d' tk os C F N hsub hG hdp hu
  have X' := C.X
  have T' := C.T
  have B' := C.B
  have M' := C.M
  have hlen : (KBw.bInts b).length = 2 * n := by rw [KBw.ints_length, hb]
  have hl1 : (KBw.bInts b).length ≤ 16 := by omega
  have hc0 : b.getD 1 0 ∈ b := by
    have : 1 < b.size := by omega
    simp [Array.getD, this]
  have hcnt : ((KBw.bInts b).length : Int).fdiv 2 = (n : Int) := by rw [hlen, Int.fdiv_eq_ediv_of_nonneg _ (by decide)]; omega
  refine wpR_execs_app (l₁ := [_, _, _]) (l₂ := _) ?_
  (try dsimp only)
  (try k_fold)
  k_steps
  have hGn := ‹AllBare _›
  have F1 := ‹Fr g L _ _›
  have N1 := ‹News g L _ _›
  refine wpR_execs_cons (wpR_Assign_Name (wpR_IfExp (wpR_of ?_)))
  k_fold
  k_steps
  refine wpR_CallName ?_
  k_fold
  k_steps
  refine wpR_callK (K := Mine02.hd.heap_39 w.params) (by k_is) ?_
  k_fold
  k_steps
  show wpR _ _ (call (.ref 85) [.bytes b t] []) _ _ _
  refine Own.SpecR.useV (findmode_spec b n hb hn0 hn (b.getD 1 0) hc0 (hc 0 hn0) t) C F1 N1 rfl hGn (by omega) (by omega) fun v nw h' tk' g' hP F' N' hG' => ?_
  obtain ⟨tkm, rfl⟩ := hP
  clear N1 F1 hGn
  rw [if_pos hall]
  (try k_fold)
  k_steps
  refine wpR_execs_app (l₁ := [_, _, _]) (l₂ := _) ?_
  (try k_fold)
  k_steps
  have hGn := ‹AllBare _›
  have F1 := ‹Fr g L _ _›
  have N1 := ‹News g L _ _›
  refine wpR_execs_cons (wpR_Assign_Name (wpR_CallName ?_))
  k_fold
  k_steps
  refine wpR_callK0 (K := Mine02.hd.heap_39 w.params) (C.X.keeps F1.keep) (by k_is) ?_
  refine Own.SpecR.use0 (buf_spec) C F1 N1 rfl hGn (by omega) (by omega) fun v nw h' tk' g' hP F' N' hap hG' => ?_
  obtain ⟨bf, dbf, dd, rfl, hq⟩ := hP
  have N2 : News g L h' [(bf, bufObj dbf dd), (dbf, dictOf [] 0), (dd, baObj []), (268, X.tableObj ps)] := news_sub N' (by
    intro q hq'
    simp only [List.mem_cons, List.not_mem_nil, or_false] at hq'
    rcases hq' with rfl | rfl | rfl | rfl
    · exact List.mem_append_left _ (hq _ (by k_mem))
    · exact List.mem_append_left _ (hq _ (by k_mem))
    · exact List.mem_append_left _ (hq _ (by k_mem))
    · exact List.mem_append_right _ (by k_mem))
  clear N' hap N1 F1 hGn
  dsimp only
  (try k_fold)
  k_steps
  refine wpR_execs_app (l₁ := [_]) (l₂ := [_, _]) ?_
  (try k_fold)
  k_steps
  refine wpR_execs_cons (wpR_If (wpR_of ?_))
  k_fold
  k_steps
  refine wpR_execs_cons (wpR_If (wpR_of ?_))
  k_fold
  k_steps
  refine wpR_execs_cons (wpR_If (wpR_of ?_))
  k_fold
  k_steps
  refine wpR_execs_cons (wpR_If (wpR_of ?_))
  k_fold
  k_steps
  have hGn := ‹AllBare _›
  refine wpR_execs_cons (wpR_For ?_)
  k_fold
  k_steps
  have F1 := ‹Fr g L _ _›
  have N1 := ‹News g L _ _›
  have hr := ‹IsRange _ _ 0 _ 2 _ _ _›
  refine wpAny_pyIter_range hr (by rw [hlen]; exact small2 n hn) ?_
  rw [hlen, size2 n hn]
  have F2 := keep_fr F1 (h' := _) fun b o e => Heap.get?_push_of_some (riObj 0 n 2) e
  have N2 := news_fresh F1 N1 (fun b o e => Heap.get?_push_of_some (riObj 0 n 2) e) (Heap.get?_push_size _ rfl)
  have hap := fun (q : Addr × Obj) hq => Nat.ne_of_lt (Heap.lt_size (N1 q hq).1)
  refine forS (n := n) (ob := fun i => riObj (0 + (i : Nat) * 2) ((n : Int) - (i : Nat)) 2) [Str.ofString "code", Str.ofString "diff"] (Steps.range rfl _ 0 2 n) rfl rfl
      (fun i nw => ∃ ps', TriplesOk ps'.toList ∧ nw = [(_, methodObj (.ref 273) (.ref bf)), (bf, bufObj dbf dd), (dbf, dictOf [] 0), (dd, baObj ((List.range i).flatMap fun j => bitsOf (kanjiV ((b.getD (2 * j) 0).toNat : Int) ((b.getD (2 * j + 1) 0).toNat : Int)) 13)), (268, X.tableObj ps')]) (fun _ _ _ _ _ => trivial) F2 (by simpa using N2) hap hGn ⟨ps, hps, rfl⟩ ?_ ?_
  · rintro i v u news₁ h3 tk3 gn3 hi ⟨t', rfl⟩ ⟨ps', hps', rfl⟩ hap3 F3 N3 hG3
    dsimp only at N3 F3
    have hc0' : (b.getD (2 * i) 0).toNat < 256 := UInt8.toNat_lt _
    have hc1' : (b.getD (2 * i + 1) 0).toNat < 256 := UInt8.toNat_lt _
    have hpk := List.all_eq_true.mp hall i (List.mem_range.mpr hi)
    generalize hcc : ((b.getD (2 * i) 0).toNat : Int) * 256 + ((b.getD (2 * i + 1) 0).toNat : Int) = cc at hpk
    simp only [pairK, Bool.or_eq_true, Bool.and_eq_true, decide_eq_true_eq, hcc] at hpk
    refine wpR_execs_cons (wpR_Assign_Name (wpR_of (wpAny_mono (Q := IntAt cc h3 gn3 d' os) ?_ ?_ (fun _ _ e => e))))
    · (try k_fold)
      k_steps
      exact ⟨_, _, congrArg (fun z => Value.int z _) ((or_bytes _ _ hc1').trans hcc), rfl⟩
    rintro v s' ⟨t5, tk5, rfl, rfl⟩
    (try k_fold)
    k_steps
    clear hall
    rcases hpk with hpk | hpk
    · refine wpR_execs_app (l₁ := [_]) (l₂ := [_]) ?_
      (try k_fold)
      k_steps
      refine wpR_execs_cons (wpR_Expr (wpR_CallName ?_))
      k_fold
      k_steps
      refine wpR_callM (K := Mine02.hd.heap_39 w.params) (g := 273) (self := .ref bf) (h₀ := g) (L := L) (news := []) (by k_is) ?_
      k_fold
      k_steps
      have F5 := ‹Fr g L _ _›
      have N5 := ‹News g L _ _›
      rw [kanjiV_lo hcc hpk.1 hpk.2]
      refine Own.SpecR.useM (f := 273) (self := .ref bf) (append_bits_spec bf dbf dd ((List.range i).flatMap fun j => bitsOf (kanjiV ((b.getD (2 * j) 0).toNat : Int) ((b.getD (2 * j + 1) 0).toNat : Int)) 13) (kanjiV ((b.getD (2 * i) 0).toNat : Int) ((b.getD (2 * i + 1) 0).toNat : Int)) 13 _ _ ps' (by decide) (by rw [bits_len (fun j => kanjiV ((b.getD (2 * j) 0).toNat : Int) ((b.getD (2 * j + 1) 0).toNat : Int))]; omega) hps') (N5.get (by k_mem)) C F5 N5 rfl (by walk_at "my_mems") hG3 (by omega) (by omega) fun v nw h' tk' g' hP F' N' hap' hG' => ?_
      obtain ⟨rfl, ps2, rfl, hps2⟩ := hP
      refine ⟨rfl, wpR_execs_nil ?_⟩
      refine ⟨_, _, ⟨ps2, hps2, rfl⟩, ?_, ?_, F', ?_, hG', rfl, rfl⟩
      · intro y h1 h2
        have h3 : y ≠ Str.ofString "code" := by rintro rfl; simp at h2
        have h4 : y ≠ Str.ofString "diff" := by rintro rfl; simp at h2
        simp only [if_neg h1, if_neg h3, if_neg h4, h2, Bool.false_eq_true, if_false]
      · exact app_hap hap3
      · have := app_led (bs' := (List.range (i + 1)).flatMap fun j => bitsOf (kanjiV ((b.getD (2 * j) 0).toNat : Int) ((b.getD (2 * j + 1) 0).toNat : Int)) 13) N5 hap3 (ps' := ps2) (by rw [bits_succ (fun j => kanjiV ((b.getD (2 * j) 0).toNat : Int) ((b.getD (2 * j + 1) 0).toNat : Int))]; exact N')
        exact this
    · refine wpR_execs_app (l₁ := [_]) (l₂ := [_]) ?_
      (try k_fold)
      k_steps
      refine wpR_execs_cons (wpR_Expr (wpR_CallName ?_))
      k_fold
      k_steps
      refine wpR_callM (K := Mine02.hd.heap_39 w.params) (g := 273) (self := .ref bf) (h₀ := g) (L := L) (news := []) (by k_is) ?_
      k_fold
      k_steps
      have F5 := ‹Fr g L _ _›
      have N5 := ‹News g L _ _›
      rw [kanjiV_hi hcc hpk.1 hpk.2]
      refine Own.SpecR.useM (f := 273) (self := .ref bf) (append_bits_spec bf dbf dd ((List.range i).flatMap fun j => bitsOf (kanjiV ((b.getD (2 * j) 0).toNat : Int) ((b.getD (2 * j + 1) 0).toNat : Int)) 13) (kanjiV ((b.getD (2 * i) 0).toNat : Int) ((b.getD (2 * i + 1) 0).toNat : Int)) 13 _ _ ps' (by decide) (by rw [bits_len (fun j => kanjiV ((b.getD (2 * j) 0).toNat : Int) ((b.getD (2 * j + 1) 0).toNat : Int))]; omega) hps') (N5.get (by k_mem)) C F5 N5 rfl (by walk_at "my_mems") hG3 (by omega) (by omega) fun v nw h' tk' g' hP F' N' hap' hG' => ?_
      obtain ⟨rfl, ps2, rfl, hps2⟩ := hP
      refine ⟨rfl, wpR_execs_nil ?_⟩
      refine ⟨_, _, ⟨ps2, hps2, rfl⟩, ?_, ?_, F', ?_, hG', rfl, rfl⟩
      · intro y h1 h2
        have h3 : y ≠ Str.ofString "code" := by rintro rfl; simp at h2
        have h4 : y ≠ Str.ofString "diff" := by rintro rfl; simp at h2
        simp only [if_neg h1, if_neg h3, if_neg h4, h2, Bool.false_eq_true, if_false]
      · exact app_hap hap3
      · have := app_led (bs' := (List.range (i + 1)).flatMap fun j => bitsOf (kanjiV ((b.getD (2 * j) 0).toNat : Int) ((b.getD (2 * j + 1) 0).toNat : Int)) 13) N5 hap3 (ps' := ps2) (by rw [bits_succ (fun j => kanjiV ((b.getD (2 * j) 0).toNat : Int) ((b.getD (2 * j + 1) 0).toNat : Int))]; exact N')
        exact this
  · intro u news' h4 tk4 gn4 hJ4 F4 N4 hG4
    obtain ⟨ps', hps', rfl⟩ := hJ4
    dsimp only
    repeat (refine wpR_execs_nil ?_; dsimp only)
    refine wpR_execs_cons (wpR_Return (wpR_CallName ?_))
    k_fold
    k_steps
    refine wpR_callK (K := Mine02.hd.heap_39 w.params) (by k_is) ?_
    k_fold
    k_steps
    dsimp only
    simp only [List.cons_append, List.nil_append]
    refine Own.Spec.useS (getbits_spec bf dbf dd) (fun _ _ hp q hq => by obtain ⟨_, rfl⟩ := hp; exact hq) C F4 N4 rfl (by walk_at "my_mems") hG4 (by omega) (by omega) fun v5 nw5 h5 tk5 g5 hP5 F5 N5 hG5 => ?_
    obtain ⟨rfl, rfl⟩ := hP5
    dsimp only
    k_steps
    refine wpR_of (Own.Spec.use0 (make_seg_spec _ _ _ _) C F5 N5 rfl hG5 (by omega) (by omega) fun v6 nw6 h6 tk6 g6 hP6 F6 N6 hap6 hG6 => ?_)
    obtain ⟨sx, sdx, rfl, hsx⟩ := hP6
    dsimp only [retOf]
    refine ⟨_, _, _, F6, N6, ?_, hG6, rfl, rfl⟩
    rw [hcnt] at hsx
    exact segMade_mk hps' rfl hsx (by k_mem) (by k_mem)
end
section
variable {w : World} {mg mb : Str → Option Value} {bm : Addr} {ob : Obj}
theorem mkseg8_bad (b : Array UInt8) (n : Nat) (hb : b.size = 2 * n) (hn0 : 0 < n) (hn : n ≤ 8) (hc : ∀ i, i < n → 161 ≤ (b.getD (2 * i + 1) 0).toNat) (hall : ((List.range n).all fun i => pairK ((b.getD (2 * i) 0).toNat : Int) ((b.getD (2 * i + 1) 0).toNat : Int)) = false) (t tm : Tok) (ps : Array Value) (hps : TriplesOk ps.toList) : SPX w mg mb bm ob 8 120 59 [.bytes b t, .int 8 tm] [] [(268, X.tableObj ps)]
    (fun _ _ => False) VErr := by
  w_on
  delta SPX
  k_fill
  refine' Own.specX_of (binds := [("data", .bytes b t), ("mode", .int 8 tm), ("encoding", .none)]) ?ho ?hcd ?hbind ?hloc ?hcell ?hb ?hco ?hgen ?hk ?hkd; (case ho => k_is); (case hcd => k_is); (case hbind => exact (fun s X => by first | (rcases hpos with rfl | rfl <;> first | exact binds_K X rfl (by k_is) rfl rfl rfl | exact BindsTo.of_eq rfl) | exact binds_K X rfl (by k_is) rfl rfl rfl | exact BindsTo.of_eq rfl)); (case hloc => exact (locs rfl)); (case hcell => decide); (case hco => exact rfl); (case hgen => exact rfl); (case hk => exact rfl); (case hkd => decide)
  intro dp un gd L outer A₀ base g h₁ gn d' tk os Xp C F N hsub hG hdp hu lv po
  have X' := C.X
  have T' := C.T
  have B' := C.B
  have M' := C.M
  have hlen : (KBw.bInts b).length = 2 * n := by rw [KBw.ints_length, hb]
  have hl1 : (KBw.bInts b).length ≤ 16 := by omega
  have hc0 : b.getD 1 0 ∈ b := by
    have : 1 < b.size := by omega
    simp [Array.getD, this]
  have hcnt : ((KBw.bInts b).length : Int).fdiv 2 = (n : Int) := by rw [hlen, Int.fdiv_eq_ediv_of_nonneg _ (by decide)]; omega
  refine wpR_execs_app (l₁ := [_, _, _]) (l₂ := _) ?_
  (try dsimp only)
  (try k_fold)
  k_steps
  have hGn := ‹AllBare _›
  have F1 := ‹Fr g L _ _›
  have N1 := ‹News g L _ _›
  refine wpR_execs_cons (wpR_Assign_Name (wpR_IfExp (wpR_of ?_)))
  k_fold
  k_steps
  refine wpR_CallName ?_
  k_fold
  k_steps
  refine wpR_callK (K := Mine02.hd.heap_39 w.params) (by k_is) ?_
  k_fold
  k_steps
  show wpR _ _ (call (.ref 85) [.bytes b t] []) _ _ _
  refine Own.SpecR.useV (findmode_spec b n hb hn0 hn (b.getD 1 0) hc0 (hc 0 hn0) t) C F1 N1 rfl hGn (by omega) (by omega) fun v nw h' tk' g' hP F' N' hG' => ?_
  obtain ⟨tkm, rfl⟩ := hP
  clear N1 F1 hGn
  generalize hgm : (if ((List.range n).all fun i => pairK ((b.getD (2 * i) 0).toNat : Int) ((b.getD (2 * i + 1) 0).toNat : Int)) = true then (8 : Int) else 4) = gm
  have hgm8 : gm = 8 ∨ gm = 4 := by rw [← hgm]; split; exact .inl rfl; exact .inr rfl
  (try k_fold)
  k_steps
  refine wpR_execs_app (l₁ := [_, _, _]) (l₂ := _) ?_
  (try k_fold)
  k_steps
  have hGn := ‹AllBare _›
  have F1 := ‹Fr g L _ _›
  have N1 := ‹News g L _ _›
  refine wpR_execs_cons (wpR_Assign_Name (wpR_CallName ?_))
  k_fold
  k_steps
  refine wpR_callK0 (K := Mine02.hd.heap_39 w.params) (C.X.keeps F1.keep) (by k_is) ?_
  refine Own.SpecR.use0 (buf_spec) C F1 N1 rfl hGn (by omega) (by omega) fun v nw h' tk' g' hP F' N' hap hG' => ?_
  obtain ⟨bf, dbf, dd, rfl, hq⟩ := hP
  have N2 : News g L h' [(bf, bufObj dbf dd), (dbf, dictOf [] 0), (dd, baObj []), (268, X.tableObj ps)] := news_sub N' (by
    intro q hq'
    simp only [List.mem_cons, List.not_mem_nil, or_false] at hq'
    rcases hq' with rfl | rfl | rfl | rfl
    · exact List.mem_append_left _ (hq _ (by k_mem))
    · exact List.mem_append_left _ (hq _ (by k_mem))
    · exact List.mem_append_left _ (hq _ (by k_mem))
    · exact List.mem_append_right _ (by k_mem))
  clear N' hap N1 F1 hGn
  dsimp only
  (try k_fold)
  k_steps
  refine wpR_execs_app (l₁ := [_]) (l₂ := [_, _]) ?_
  (try k_fold)
  k_steps
  refine wpR_execs_cons (wpR_If (wpR_of ?_))
  k_fold
  k_steps
  refine wpR_execs_cons (wpR_If (wpR_of ?_))
  k_fold
  k_steps
  refine wpR_execs_cons (wpR_If (wpR_of ?_))
  k_fold
  k_steps
  refine wpR_execs_cons (wpR_If (wpR_of ?_))
  k_fold
  k_steps
  have hGn := ‹AllBare _›
  refine wpR_execs_cons (wpR_For ?_)
  k_fold
  k_steps
  have F1 := ‹Fr g L _ _›
  have N1 := ‹News g L _ _›
  have hr := ‹IsRange _ _ 0 _ 2 _ _ _›
  refine wpAny_pyIter_range hr (by rw [hlen]; exact small2 n hn) ?_
  rw [hlen, size2 n hn]
  have F2 := keep_fr F1 (h' := _) fun b o e => Heap.get?_push_of_some (riObj 0 n 2) e
  have N2 := news_fresh F1 N1 (fun b o e => Heap.get?_push_of_some (riObj 0 n 2) e) (Heap.get?_push_size _ rfl)
  have hap := fun (q : Addr × Obj) hq => Nat.ne_of_lt (Heap.lt_size (N1 q hq).1)
  refine forS (n := n) (ob := fun i => riObj (0 + (i : Nat) * 2) ((n : Int) - (i : Nat)) 2) [Str.ofString "code", Str.ofString "diff"] (Steps.range rfl _ 0 2 n) rfl rfl
      (fun i nw => (∀ j, j < i → pairK ((b.getD (2 * j) 0).toNat : Int) ((b.getD (2 * j + 1) 0).toNat : Int) = true) ∧ ∃ ps', TriplesOk ps'.toList ∧ nw = [(_, methodObj (.ref 273) (.ref bf)), (bf, bufObj dbf dd), (dbf, dictOf [] 0), (dd, baObj ((List.range i).flatMap fun j => bitsOf (kanjiV ((b.getD (2 * j) 0).toNat : Int) ((b.getD (2 * j + 1) 0).toNat : Int)) 13)), (268, X.tableObj ps')]) (fun _ _ _ _ _ => trivial) F2 (by simpa using N2) hap hGn ⟨fun j hj => absurd hj (Nat.not_lt_zero _), ps, hps, rfl⟩ ?_ ?_
  · rintro i v u news₁ h3 tk3 gn3 hi ⟨t', rfl⟩ ⟨hprev, ps', hps', rfl⟩ hap3 F3 N3 hG3
    dsimp only at N3 F3
    have hc0' : (b.getD (2 * i) 0).toNat < 256 := UInt8.toNat_lt _
    have hc1' : (b.getD (2 * i + 1) 0).toNat < 256 := UInt8.toNat_lt _
    refine wpR_mono (E := Xp) ?_ (fun _ _ q => q) (fun e s' h => po e s' h)
    generalize hcc : ((b.getD (2 * i) 0).toNat : Int) * 256 + ((b.getD (2 * i + 1) 0).toNat : Int) = cc
    have hpe : pairK ((b.getD (2 * i) 0).toNat : Int) ((b.getD (2 * i + 1) 0).toNat : Int) = (decide (33088 ≤ cc) && decide (cc ≤ 40956) || decide (57408 ≤ cc) && decide (cc ≤ 60351)) := by simp only [pairK, hcc]
    have hcb : cc < 65536 ∧ 0 ≤ cc := by omega
    have hpk : ((33088 ≤ cc ∧ cc ≤ 40956) ∨ (57408 ≤ cc ∧ cc ≤ 60351)) ∨ cc < 33088 ∨ (40956 < cc ∧ cc < 57408) ∨ 60351 < cc := by omega
    have hgood : ((33088 ≤ cc ∧ cc ≤ 40956) ∨ (57408 ≤ cc ∧ cc ≤ 60351)) → ∀ j, j < i + 1 → pairK ((b.getD (2 * j) 0).toNat : Int) ((b.getD (2 * j + 1) 0).toNat : Int) = true := by
      intro hg j hj
      rcases Nat.lt_or_ge j i with h | h
      · exact hprev j h
      · have : j = i := by omega
        subst this
        rw [hpe]
        simp only [Bool.or_eq_true, Bool.and_eq_true, decide_eq_true_eq]
        exact hg
    clear hpe
    refine wpR_execs_cons (wpR_Assign_Name (wpR_of (wpAny_mono (Q := IntAt cc h3 gn3 d' os) ?_ ?_ (fun _ _ e => e))))
    · (try k_fold)
      k_steps
      exact ⟨_, _, congrArg (fun z => Value.int z _) ((or_bytes _ _ hc1').trans hcc), rfl⟩
    rintro v s' ⟨t5, tk5, rfl, rfl⟩
    (try k_fold)
    k_steps
    clear hall
    rcases hpk with (hpk | hpk) | hpk | hpk | hpk
    · refine wpR_execs_app (l₁ := [_]) (l₂ := [_]) ?_
      (try k_fold)
      k_steps
      refine wpR_execs_cons (wpR_Expr (wpR_CallName ?_))
      k_fold
      k_steps
      refine wpR_callM (K := Mine02.hd.heap_39 w.params) (g := 273) (self := .ref bf) (h₀ := g) (L := L) (news := []) (by k_is) ?_
      k_fold
      k_steps
      have F5 := ‹Fr g L _ _›
      have N5 := ‹News g L _ _›
      rw [kanjiV_lo hcc hpk.1 hpk.2]
      refine Own.SpecR.useM (f := 273) (self := .ref bf) (append_bits_spec bf dbf dd ((List.range i).flatMap fun j => bitsOf (kanjiV ((b.getD (2 * j) 0).toNat : Int) ((b.getD (2 * j + 1) 0).toNat : Int)) 13) (kanjiV ((b.getD (2 * i) 0).toNat : Int) ((b.getD (2 * i + 1) 0).toNat : Int)) 13 _ _ ps' (by decide) (by rw [bits_len (fun j => kanjiV ((b.getD (2 * j) 0).toNat : Int) ((b.getD (2 * j + 1) 0).toNat : Int))]; omega) hps') (N5.get (by k_mem)) C F5 N5 rfl (by walk_at "my_mems") hG3 (by omega) (by omega) fun v nw h' tk' g' hP F' N' hap' hG' => ?_
      obtain ⟨rfl, ps2, rfl, hps2⟩ := hP
      refine ⟨rfl, wpR_execs_nil ?_⟩
      refine ⟨_, _, ⟨hgood (by omega), ps2, hps2, rfl⟩, ?_, ?_, F', ?_, hG', rfl, rfl⟩
      · intro y h1 h2
        have h3 : y ≠ Str.ofString "code" := by rintro rfl; simp at h2
        have h4 : y ≠ Str.ofString "diff" := by rintro rfl; simp at h2
        simp only [if_neg h1, if_neg h3, if_neg h4, h2, Bool.false_eq_true, if_false]
      · exact app_hap hap3
      · have := app_led (bs' := (List.range (i + 1)).flatMap fun j => bitsOf (kanjiV ((b.getD (2 * j) 0).toNat : Int) ((b.getD (2 * j + 1) 0).toNat : Int)) 13) N5 hap3 (ps' := ps2) (by rw [bits_succ (fun j => kanjiV ((b.getD (2 * j) 0).toNat : Int) ((b.getD (2 * j + 1) 0).toNat : Int))]; exact N')
        exact this
    · refine wpR_execs_app (l₁ := [_]) (l₂ := [_]) ?_
      (try k_fold)
      k_steps
      refine wpR_execs_cons (wpR_Expr (wpR_CallName ?_))
      k_fold
      k_steps
      refine wpR_callM (K := Mine02.hd.heap_39 w.params) (g := 273) (self := .ref bf) (h₀ := g) (L := L) (news := []) (by k_is) ?_
      k_fold
      k_steps
      have F5 := ‹Fr g L _ _›
      have N5 := ‹News g L _ _›
      rw [kanjiV_hi hcc hpk.1 hpk.2]
      refine Own.SpecR.useM (f := 273) (self := .ref bf) (append_bits_spec bf dbf dd ((List.range i).flatMap fun j => bitsOf (kanjiV ((b.getD (2 * j) 0).toNat : Int) ((b.getD (2 * j + 1) 0).toNat : Int)) 13) (kanjiV ((b.getD (2 * i) 0).toNat : Int) ((b.getD (2 * i + 1) 0).toNat : Int)) 13 _ _ ps' (by decide) (by rw [bits_len (fun j => kanjiV ((b.getD (2 * j) 0).toNat : Int) ((b.getD (2 * j + 1) 0).toNat : Int))]; omega) hps') (N5.get (by k_mem)) C F5 N5 rfl (by walk_at "my_mems") hG3 (by omega) (by omega) fun v nw h' tk' g' hP F' N' hap' hG' => ?_
      obtain ⟨rfl, ps2, rfl, hps2⟩ := hP
      refine ⟨rfl, wpR_execs_nil ?_⟩
      refine ⟨_, _, ⟨hgood (by omega), ps2, hps2, rfl⟩, ?_, ?_, F', ?_, hG', rfl, rfl⟩
      · intro y h1 h2
        have h3 : y ≠ Str.ofString "code" := by rintro rfl; simp at h2
        have h4 : y ≠ Str.ofString "diff" := by rintro rfl; simp at h2
        simp only [if_neg h1, if_neg h3, if_neg h4, h2, Bool.false_eq_true, if_false]
      · exact app_hap hap3
      · have := app_led (bs' := (List.range (i + 1)).flatMap fun j => bitsOf (kanjiV ((b.getD (2 * j) 0).toNat : Int) ((b.getD (2 * j + 1) 0).toNat : Int)) 13) N5 hap3 (ps' := ps2) (by rw [bits_succ (fun j => kanjiV ((b.getD (2 * j) 0).toNat : Int) ((b.getD (2 * j + 1) 0).toNat : Int))]; exact N')
        exact this
    iterate 3
      · refine wpR_execs_app (l₁ := [_]) (l₂ := [_]) ?_
        (try k_fold)
        k_steps
        exact lv _ _ _ _ _ _ ‹Heap.NewExc _ _ _ _› (by k_asm) ‹News g L _ _› ⟨rfl, ps', hps', by k_mem⟩ (by assumption) rfl rfl
  · intro u news' h4 tk4 gn4 hJ4 F4 N4 hG4
    exfalso
    obtain ⟨hgoods, _⟩ := hJ4
    have : ((List.range n).all fun i => pairK ((b.getD (2 * i) 0).toNat : Int) ((b.getD (2 * i + 1) 0).toNat : Int)) = true := List.all_eq_true.mpr fun i hi => hgoods i (List.mem_range.mp hi)
    rw [hall] at this; cases this
end
end
section
local macro_rules | `(tactic| walk_at "call ref") => `(tactic| (k_here; (with_reducible show wpAny _ _ (call (Value.ref 66) [Value.int _ _]) _ _ _); k_dflt (refine' Own.Spec.useV (gmn_spec _ _ ?a1) ?a5 ?a6 ?a7 ?a8 ?a9 ?a10 ?a11 ?_; (case a1 => omega); (case a5 => assumption); (case a6 => k_asm); (case a7 => k_asm); (case a8 => rfl); (case a9 => assumption); (case a10 => omega); (case a11 => omega)); intro v' nw' h' tk' g' hP' F' N' hG'; obtain ⟨x', k', hv', hx'⟩ := hP'; subst hv'; dsimp only))
local macro_rules | `(tactic| walk_at "formatField str") => `(tactic| (k_here; (with_reducible show wpAny _ _ (formatField (Value.str _ _) _) _ _ _); refine PyProof.Rows.formatField_str (fun t' k' => ?_) ?_; rotate_left; focus (rw [sizeLine_eq]; omega)))
local macro_rules | `(tactic| walk_at "eval FormattedValue") => `(tactic| (k_here; (with_reducible show wpAny _ _ (eval (Expr.FormattedValue _ 114 none _) _) _ _ _); refine wpAny_FormattedValue_repr ?_))
local macro_rules | `(tactic| walk_at "pyReprObj bytes") => `(tactic| (k_here; refine Own.repr_bytes (by omega) ?_; intro x' t' k' hx'))
section
variable {w : World} {mg mb : Str → Option Value} {bm : Addr} {ob : Obj}
theorem mkseg1_spec (b : Array UInt8) (n : Nat) (hb : b.size = 2 * n) (hn0 : 0 < n) (hn : n ≤ 8) (hc : ∀ i, i < n → 161 ≤ (b.getD (2 * i + 1) 0).toNat) (t tm : Tok) (ps : Array Value) (hps : TriplesOk ps.toList) : SPX w mg mb bm ob 8 120 59 [.bytes b t, .int 1 tm] [] [(268, X.tableObj ps)]
    (fun _ _ => False) VErr := by
  w_on
  delta SPX
  k_fill
  refine' Own.specX_of (binds := [("data", .bytes b t), ("mode", .int 1 tm), ("encoding", .none)]) ?ho ?hcd ?hbind ?hloc ?hcell ?hb ?hco ?hgen ?hk ?hkd; (case ho => k_is); (case hcd => k_is); (case hbind => exact (fun s X => by first | (rcases hpos with rfl | rfl <;> first | exact binds_K X rfl (by k_is) rfl rfl rfl | exact BindsTo.of_eq rfl) | exact binds_K X rfl (by k_is) rfl rfl rfl | exact BindsTo.of_eq rfl)); (case hloc => exact (locs rfl)); (case hcell => decide); (case hco => exact rfl); (case hgen => exact rfl); (case hk => exact rfl); (case hkd => decide)
  intro dp un gd L outer A₀ base g h₁ gn d' tk os X C F N hsub hG hdp hu lv po
  have X' := C.X
  have T' := C.T
  have B' := C.B
  have M' := C.M
  have hlen : (KBw.bInts b).length = 2 * n := by rw [KBw.ints_length, hb]
  have hl1 : (KBw.bInts b).length ≤ 16 := by omega
  have hc0 : b.getD 1 0 ∈ b := by
    have : 1 < b.size := by omega
    simp [Array.getD, this]
  refine wpR_execs_app (l₁ := [_, _, _]) (l₂ := _) ?_
  (try dsimp only)
  (try k_fold)
  k_steps
  have hGn := ‹AllBare _›
  have F1 := ‹Fr g L _ _›
  have N1 := ‹News g L _ _›
  refine wpR_execs_cons (wpR_Assign_Name (wpR_IfExp (wpR_of ?_)))
  k_fold
  k_steps
  refine wpR_CallName ?_
  k_fold
  k_steps
  refine wpR_callK (K := Mine02.hd.heap_39 w.params) (by k_is) ?_
  k_fold
  k_steps
  show wpR _ _ (call (.ref 85) [.bytes b t] []) _ _ _
  refine Own.SpecR.useV (findmode_spec b n hb hn0 hn (b.getD 1 0) hc0 (hc 0 hn0) t) C F1 N1 rfl hGn (by omega) (by omega) fun v nw h' tk' g' hP F' N' hG' => ?_
  obtain ⟨tkm, rfl⟩ := hP
  clear N1 F1 hGn
  generalize hgm : (if ((List.range n).all fun i => pairK ((b.getD (2 * i) 0).toNat : Int) ((b.getD (2 * i + 1) 0).toNat : Int)) = true then (8 : Int) else 4) = gm
  have hgm8 : gm = 8 ∨ gm = 4 := by rw [← hgm]; split; exact .inl rfl; exact .inr rfl
  (try k_fold)
  k_steps
  refine wpR_of ?_
  (try k_fold)
  k_steps
  exact lv _ _ _ _ _ _ ‹Heap.NewExc _ _ _ _› (by k_asm) ‹News g L _ _› ⟨rfl, ps, hps, by k_mem⟩ (by assumption) rfl rfl
end
section
variable {w : World} {mg mb : Str → Option Value} {bm : Addr} {ob : Obj}
theorem mkseg2_spec (b : Array UInt8) (n : Nat) (hb : b.size = 2 * n) (hn0 : 0 < n) (hn : n ≤ 8) (hc : ∀ i, i < n → 161 ≤ (b.getD (2 * i + 1) 0).toNat) (t tm : Tok) (ps : Array Value) (hps : TriplesOk ps.toList) : SPX w mg mb bm ob 8 120 59 [.bytes b t, .int 2 tm] [] [(268, X.tableObj ps)]
    (fun _ _ => False) VErr := by
  w_on
  delta SPX
  k_fill
  refine' Own.specX_of (binds := [("data", .bytes b t), ("mode", .int 2 tm), ("encoding", .none)]) ?ho ?hcd ?hbind ?hloc ?hcell ?hb ?hco ?hgen ?hk ?hkd; (case ho => k_is); (case hcd => k_is); (case hbind => exact (fun s X => by first | (rcases hpos with rfl | rfl <;> first | exact binds_K X rfl (by k_is) rfl rfl rfl | exact BindsTo.of_eq rfl) | exact binds_K X rfl (by k_is) rfl rfl rfl | exact BindsTo.of_eq rfl)); (case hloc => exact (locs rfl)); (case hcell => decide); (case hco => exact rfl); (case hgen => exact rfl); (case hk => exact rfl); (case hkd => decide)
  intro dp un gd L outer A₀ base g h₁ gn d' tk os X C F N hsub hG hdp hu lv po
  have X' := C.X
  have T' := C.T
  have B' := C.B
  have M' := C.M
  have hlen : (KBw.bInts b).length = 2 * n := by rw [KBw.ints_length, hb]
  have hl1 : (KBw.bInts b).length ≤ 16 := by omega
  have hc0 : b.getD 1 0 ∈ b := by
    have : 1 < b.size := by omega
    simp [Array.getD, this]
  refine wpR_execs_app (l₁ := [_, _, _]) (l₂ := _) ?_
  (try dsimp only)
  (try k_fold)
  k_steps
  have hGn := ‹AllBare _›
  have F1 := ‹Fr g L _ _›
  have N1 := ‹News g L _ _›
  refine wpR_execs_cons (wpR_Assign_Name (wpR_IfExp (wpR_of ?_)))
  k_fold
  k_steps
  refine wpR_CallName ?_
  k_fold
  k_steps
  refine wpR_callK (K := Mine02.hd.heap_39 w.params) (by k_is) ?_
  k_fold
  k_steps
  show wpR _ _ (call (.ref 85) [.bytes b t] []) _ _ _
  refine Own.SpecR.useV (findmode_spec b n hb hn0 hn (b.getD 1 0) hc0 (hc 0 hn0) t) C F1 N1 rfl hGn (by omega) (by omega) fun v nw h' tk' g' hP F' N' hG' => ?_
  obtain ⟨tkm, rfl⟩ := hP
  clear N1 F1 hGn
  generalize hgm : (if ((List.range n).all fun i => pairK ((b.getD (2 * i) 0).toNat : Int) ((b.getD (2 * i + 1) 0).toNat : Int)) = true then (8 : Int) else 4) = gm
  have hgm8 : gm = 8 ∨ gm = 4 := by rw [← hgm]; split; exact .inl rfl; exact .inr rfl
  (try k_fold)
  k_steps
  refine wpR_of ?_
  (try k_fold)
  k_steps
  exact lv _ _ _ _ _ _ ‹Heap.NewExc _ _ _ _› (by k_asm) ‹News g L _ _› ⟨rfl, ps, hps, by k_mem⟩ (by assumption) rfl rfl
end
end
end
section
variable {w : World} {mg mb : Str → Option Value} {bm : Addr} {ob : Obj}
def numOf (ns : List Int) : Int := ns.foldl (fun a b => 2 * a + b) 0
theorem lnum_spec (l : Addr) (vs : List Value) (ns : List Int) (c : Nat) (hI : IntsAre vs ns) (hlen : ns.length ≤ 1000) : SP w mg mb bm ob 2 40 315 [.ref l] [] [(l, listOf vs.toArray c)] (fun r nw => ∃ t, r = .int (numOf ns) t ∧ (l, listOf vs.toArray c) ∈ nw) := by
  walk_at "my_start"
  intro dp un gd L outer A₀ base g h₁ gn d' tk os C F N hsub hG hdp hu
  have X' := C.X
  have T' := C.T
  have B' := C.B
  have M' := C.M
  (try dsimp only)
  (try k_fold)
  k_steps
  walk_at "my_ret"
  exact ⟨_, rfl, by k_mem⟩
end
section
variable {w : World} {mg mb : Str → Option Value} {bm : Addr} {ob : Obj}
def vrange (v : Int) : Int := if v < 10 then 1 else if v < 27 then 2 else 3
theorem version_range_spec (v : Int) (t : Tok) (h1 : 1 ≤ v) (h2 : v ≤ 40) : SP w mg mb bm ob 1 3 92 [.int v t] [] [] (fun r _ => ∃ tk, r = .int (vrange v) tk) := by
  walk_at "my_start"
  intro dp un gd L outer A₀ base g h₁ gn d' tk os C F N hsub hG hd hu
  have X' := C.X
  have T' := C.T
  have B' := C.B
  have M' := C.M
  (try dsimp only)
  (try k_fold)
  k_steps
  all_goals (walk_at "my_ret"; unfold vrange; simp [*])
end
section
local macro_rules | `(tactic| walk_at "call ref") => `(tactic| (k_here; (with_reducible show wpAny _ _ (call (Value.ref 51) [_, Value.str _ _]) _ _ _); k_dflt (refine' Own.Spec.use0 (dtb_str _ _ rfl ?a1 _ _) ?a5 ?a6 ?a7 ?a8 ?a9 ?a10 ?a11 ?_; (case a1 => assumption); (case a5 => assumption); (case a6 => k_asm); (case a7 => k_asm); (case a8 => rfl); (case a9 => assumption); (case a10 => omega); (case a11 => omega)); intro v' nw' h' tk' g' hP' F' N' hap' hG'; obtain ⟨D', k1', k2', hv', hD'⟩ := hP'; subst hv'; replace N' := Own.news_pick N' hD'; dsimp only))
local macro_rules | `(tactic| walk_at "subscriptTail") => `(tactic| (k_here; (with_reducible show wpAny _ _ (subscriptTail _ _ (Value.bytes _ _) (Value.int (0 + Nat.cast _ * 2) _)) _ _ _); refine' Own.item_at (2 * _) ?i1 ?i2 ?i3 ?_; (case i1 => (rw [Int.zero_add, Int.mul_comm]; exact rfl)); (case i2 => omega); (case i3 => omega); intro _ _))
local macro_rules | `(tactic| walk_at "subscriptTail") => `(tactic| (k_here; (with_reducible show wpAny _ _ (subscriptTail _ _ (Value.bytes _ _) (Value.int (0 + Nat.cast _ * 2 + 1) _)) _ _ _); refine' Own.item_at (2 * _ + 1) ?i1 ?i2 ?i3 ?_; (case i1 => (rw [Int.zero_add, Int.mul_comm]; exact rfl)); (case i2 => omega); (case i3 => omega); intro _ _))
section
variable {w : World} {mg mb : Str → Option Value} {bm : Addr} {ob : Obj}
theorem mkseg13_spec (b : Array UInt8) (n : Nat) (hb : b.size = 2 * n) (hn0 : 0 < n) (hn : n ≤ 8) (hc : ∀ i, i < n → 161 ≤ (b.getD (2 * i + 1) 0).toNat) (hall : ((List.range n).all fun i => pairH ((b.getD (2 * i) 0).toNat : Int) ((b.getD (2 * i + 1) 0).toNat : Int)) = true) (t tm : Tok) (ps : Array Value) (hps : TriplesOk ps.toList)
    (pos : List Value) (hpos : pos = [.bytes b t, .int 13 tm] ∨ pos = [.bytes b t, .int 13 tm, .none]) : SPR w mg mb bm ob 8 120 59 pos [] [(268, X.tableObj ps)]
    (SegMade ((List.range n).flatMap fun j => bitsOf (hanziV ((b.getD (2 * j) 0).toNat : Int) ((b.getD (2 * j + 1) 0).toNat : Int)) 13) n 13) := by
  w_on
  delta SPR
  k_fill
  refine' Own.specR_of (binds := [("data", .bytes b t), ("mode", .int 13 tm), ("encoding", .none)]) ?ho ?hcd ?hbind ?hloc ?hcell ?hb ?hco ?hgen ?hk ?hkd; (case ho => k_is); (case hcd => k_is); (case hbind => exact (fun s X => by first | (rcases hpos with rfl | rfl <;> first | exact binds_K X rfl (by k_is) rfl rfl rfl | exact BindsTo.of_eq rfl) | exact binds_K X rfl (by k_is) rfl rfl rfl | exact BindsTo.of_eq rfl)); (case hloc => exact (locs rfl)); (case hcell => decide); (case hco => exact rfl); (case hgen => exact rfl); (case hk => exact rfl); (case hkd => decide)
  intro dp un gd L outer A₀ base g h₁ gn d' tk os C F N hsub hG hdp hu
  have X' := C.X
  have T' := C.T
  have B' := C.B
  have M' := C.M
  have hlen : (KBw.bInts b).length = 2 * n := by rw [KBw.ints_length, hb]
  have hl1 : (KBw.bInts b).length ≤ 16 := by omega
  have hc0 : b.getD 1 0 ∈ b := by
    have : 1 < b.size := by omega
    simp [Array.getD, this]
  have hcnt : ((KBw.bInts b).length : Int).fdiv 2 = (n : Int) := by rw [hlen, Int.fdiv_eq_ediv_of_nonneg _ (by decide)]; omega
  refine wpR_execs_app (l₁ := [_, _, _]) (l₂ := _) ?_
  (try dsimp only)
  (try k_fold)
  k_steps
  have hGn := ‹AllBare _›
  have F1 := ‹Fr g L _ _›
  have N1 := ‹News g L _ _›
  refine wpR_execs_cons (wpR_Assign_Name (wpR_IfExp (wpR_of ?_)))
  k_fold
  k_steps
  refine wpR_CallName ?_
  k_fold
  k_steps
  refine wpR_callK (K := Mine02.hd.heap_39 w.params) (by k_is) ?_
  k_fold
  k_steps
  show wpR _ _ (call (.ref 85) [.bytes b t] []) _ _ _
  refine Own.SpecR.useV (findmode_spec b n hb hn0 hn (b.getD 1 0) hc0 (hc 0 hn0) t) C F1 N1 rfl hGn (by omega) (by omega) fun v nw h' tk' g' hP F' N' hG' => ?_
  obtain ⟨tkm, rfl⟩ := hP
  clear N1 F1 hGn
  generalize hgm : (if ((List.range n).all fun i => pairK ((b.getD (2 * i) 0).toNat : Int) ((b.getD (2 * i + 1) 0).toNat : Int)) = true then (8 : Int) else 4) = gm
  have hgm8 : gm ≤ 8 := by rw [← hgm]; split <;> decide
  (try k_fold)
  k_steps
  refine wpR_execs_app (l₁ := [_, _, _]) (l₂ := _) ?_
  (try k_fold)
  k_steps
  have hGn := ‹AllBare _›
  have F1 := ‹Fr g L _ _›
  have N1 := ‹News g L _ _›
  refine wpR_execs_cons (wpR_Assign_Name (wpR_CallName ?_))
  k_fold
  k_steps
  refine wpR_callK0 (K := Mine02.hd.heap_39 w.params) (C.X.keeps F1.keep) (by k_is) ?_
  refine Own.SpecR.use0 (buf_spec) C F1 N1 rfl hGn (by omega) (by omega) fun v nw h' tk' g' hP F' N' hap hG' => ?_
  obtain ⟨bf, dbf, dd, rfl, hq⟩ := hP
  have N2 : News g L h' [(bf, bufObj dbf dd), (dbf, dictOf [] 0), (dd, baObj []), (268, X.tableObj ps)] := news_sub N' (by
    intro q hq'
    simp only [List.mem_cons, List.not_mem_nil, or_false] at hq'
    rcases hq' with rfl | rfl | rfl | rfl
    · exact List.mem_append_left _ (hq _ (by k_mem))
    · exact List.mem_append_left _ (hq _ (by k_mem))
    · exact List.mem_append_left _ (hq _ (by k_mem))
    · exact List.mem_append_right _ (by k_mem))
  clear N' hap N1 F1 hGn
  dsimp only
  (try k_fold)
  k_steps
  refine wpR_execs_app (l₁ := [_]) (l₂ := [_, _]) ?_
  (try k_fold)
  k_steps
  refine wpR_execs_cons (wpR_If (wpR_of ?_))
  k_fold
  k_steps
  refine wpR_execs_cons (wpR_If (wpR_of ?_))
  k_fold
  k_steps
  refine wpR_execs_cons (wpR_If (wpR_of ?_))
  k_fold
  k_steps
  refine wpR_execs_cons (wpR_If (wpR_of ?_))
  k_fold
  k_steps
  have hGn := ‹AllBare _›
  refine wpR_execs_cons (wpR_For ?_)
  k_fold
  k_steps
  have F1 := ‹Fr g L _ _›
  have N1 := ‹News g L _ _›
  have hr := ‹IsRange _ _ 0 _ 2 _ _ _›
  refine wpAny_pyIter_range hr (by rw [hlen]; exact small2 n hn) ?_
  rw [hlen, size2 n hn]
  have F2 := keep_fr F1 (h' := _) fun b o e => Heap.get?_push_of_some (riObj 0 n 2) e
  have N2 := news_fresh F1 N1 (fun b o e => Heap.get?_push_of_some (riObj 0 n 2) e) (Heap.get?_push_size _ rfl)
  have hap := fun (q : Addr × Obj) hq => Nat.ne_of_lt (Heap.lt_size (N1 q hq).1)
  refine forS (n := n) (ob := fun i => riObj (0 + (i : Nat) * 2) ((n : Int) - (i : Nat)) 2) [Str.ofString "code", Str.ofString "diff"] (Steps.range rfl _ 0 2 n) rfl rfl
      (fun i nw => ∃ ps', TriplesOk ps'.toList ∧ nw = [(_, methodObj (.ref 273) (.ref bf)), (bf, bufObj dbf dd), (dbf, dictOf [] 0), (dd, baObj ((List.range i).flatMap fun j => bitsOf (hanziV ((b.getD (2 * j) 0).toNat : Int) ((b.getD (2 * j + 1) 0).toNat : Int)) 13)), (268, X.tableObj ps')]) (fun _ _ _ _ _ => trivial) F2 (by simpa using N2) hap hGn ⟨ps, hps, rfl⟩ ?_ ?_
  · rintro i v u news₁ h3 tk3 gn3 hi ⟨t', rfl⟩ ⟨ps', hps', rfl⟩ hap3 F3 N3 hG3
    dsimp only at N3 F3
    have hc0' : (b.getD (2 * i) 0).toNat < 256 := UInt8.toNat_lt _
    have hc1' : (b.getD (2 * i + 1) 0).toNat < 256 := UInt8.toNat_lt _
    have hpk := List.all_eq_true.mp hall i (List.mem_range.mpr hi)
    generalize hcc : ((b.getD (2 * i) 0).toNat : Int) * 256 + ((b.getD (2 * i + 1) 0).toNat : Int) = cc at hpk
    simp only [pairH, Bool.or_eq_true, Bool.and_eq_true, decide_eq_true_eq, hcc] at hpk
    refine wpR_execs_cons (wpR_Assign_Name (wpR_of (wpAny_mono (Q := IntAt cc h3 gn3 d' os) ?_ ?_ (fun _ _ e => e))))
    · (try k_fold)
      k_steps
      exact ⟨_, _, congrArg (fun z => Value.int z _) ((or_bytes _ _ hc1').trans hcc), rfl⟩
    rintro v s' ⟨t5, tk5, rfl, rfl⟩
    (try k_fold)
    k_steps
    clear hall
    rcases hpk with hpk | hpk
    · refine wpR_execs_app (l₁ := [_]) (l₂ := [_]) ?_
      (try k_fold)
      k_steps
      refine wpR_execs_cons (wpR_Expr (wpR_CallName ?_))
      k_fold
      k_steps
      refine wpR_callM (K := Mine02.hd.heap_39 w.params) (g := 273) (self := .ref bf) (h₀ := g) (L := L) (news := []) (by k_is) ?_
      k_fold
      k_steps
      have F5 := ‹Fr g L _ _›
      have N5 := ‹News g L _ _›
      rw [hanziV_lo hcc hpk.1 hpk.2]
      refine Own.SpecR.useM (f := 273) (self := .ref bf) (append_bits_spec bf dbf dd ((List.range i).flatMap fun j => bitsOf (hanziV ((b.getD (2 * j) 0).toNat : Int) ((b.getD (2 * j + 1) 0).toNat : Int)) 13) (hanziV ((b.getD (2 * i) 0).toNat : Int) ((b.getD (2 * i + 1) 0).toNat : Int)) 13 _ _ ps' (by decide) (by rw [bits_len (fun j => hanziV ((b.getD (2 * j) 0).toNat : Int) ((b.getD (2 * j + 1) 0).toNat : Int))]; omega) hps') (N5.get (by k_mem)) C F5 N5 rfl (by walk_at "my_mems") hG3 (by omega) (by omega) fun v nw h' tk' g' hP F' N' hap' hG' => ?_
      obtain ⟨rfl, ps2, rfl, hps2⟩ := hP
      refine ⟨rfl, wpR_execs_nil ?_⟩
      refine ⟨_, _, ⟨ps2, hps2, rfl⟩, ?_, ?_, F', ?_, hG', rfl, rfl⟩
      · intro y h1 h2
        have h3 : y ≠ Str.ofString "code" := by rintro rfl; simp at h2
        have h4 : y ≠ Str.ofString "diff" := by rintro rfl; simp at h2
        simp only [if_neg h1, if_neg h3, if_neg h4, h2, Bool.false_eq_true, if_false]
      · exact app_hap hap3
      · have := app_led (bs' := (List.range (i + 1)).flatMap fun j => bitsOf (hanziV ((b.getD (2 * j) 0).toNat : Int) ((b.getD (2 * j + 1) 0).toNat : Int)) 13) N5 hap3 (ps' := ps2) (by rw [bits_succ (fun j => hanziV ((b.getD (2 * j) 0).toNat : Int) ((b.getD (2 * j + 1) 0).toNat : Int))]; exact N')
        exact this
    · refine wpR_execs_app (l₁ := [_]) (l₂ := [_]) ?_
      (try k_fold)
      k_steps
      refine wpR_execs_cons (wpR_Expr (wpR_CallName ?_))
      k_fold
      k_steps
      refine wpR_callM (K := Mine02.hd.heap_39 w.params) (g := 273) (self := .ref bf) (h₀ := g) (L := L) (news := []) (by k_is) ?_
      k_fold
      k_steps
      have F5 := ‹Fr g L _ _›
      have N5 := ‹News g L _ _›
      rw [hanziV_hi hcc hpk.1 hpk.2]
      refine Own.SpecR.useM (f := 273) (self := .ref bf) (append_bits_spec bf dbf dd ((List.range i).flatMap fun j => bitsOf (hanziV ((b.getD (2 * j) 0).toNat : Int) ((b.getD (2 * j + 1) 0).toNat : Int)) 13) (hanziV ((b.getD (2 * i) 0).toNat : Int) ((b.getD (2 * i + 1) 0).toNat : Int)) 13 _ _ ps' (by decide) (by rw [bits_len (fun j => hanziV ((b.getD (2 * j) 0).toNat : Int) ((b.getD (2 * j + 1) 0).toNat : Int))]; omega) hps') (N5.get (by k_mem)) C F5 N5 rfl (by walk_at "my_mems") hG3 (by omega) (by omega) fun v nw h' tk' g' hP F' N' hap' hG' => ?_
      obtain ⟨rfl, ps2, rfl, hps2⟩ := hP
      refine ⟨rfl, wpR_execs_nil ?_⟩
      refine ⟨_, _, ⟨ps2, hps2, rfl⟩, ?_, ?_, F', ?_, hG', rfl, rfl⟩
      · intro y h1 h2
        have h3 : y ≠ Str.ofString "code" := by rintro rfl; simp at h2
        have h4 : y ≠ Str.ofString "diff" := by rintro rfl; simp at h2
        simp only [if_neg h1, if_neg h3, if_neg h4, h2, Bool.false_eq_true, if_false]
      · exact app_hap hap3
      · have := app_led (bs' := (List.range (i + 1)).flatMap fun j => bitsOf (hanziV ((b.getD (2 * j) 0).toNat : Int) ((b.getD (2 * j + 1) 0).toNat : Int)) 13) N5 hap3 (ps' := ps2) (by rw [bits_succ (fun j => hanziV ((b.getD (2 * j) 0).toNat : Int) ((b.getD (2 * j + 1) 0).toNat : Int))]; exact N')
        exact this
  · intro u news' h4 tk4 gn4 hJ4 F4 N4 hG4
    obtain ⟨ps', hps', rfl⟩ := hJ4
    dsimp only
    repeat (refine wpR_execs_nil ?_; dsimp only)
    refine wpR_execs_cons (wpR_Return (wpR_CallName ?_))
    k_fold
    k_steps
    refine wpR_callK (K := Mine02.hd.heap_39 w.params) (by k_is) ?_
    k_fold
    k_steps
    dsimp only
    simp only [List.cons_append, List.nil_append]
    refine Own.Spec.useS (getbits_spec bf dbf dd) (fun _ _ hp q hq => by obtain ⟨_, rfl⟩ := hp; exact hq) C F4 N4 rfl (by walk_at "my_mems") hG4 (by omega) (by omega) fun v5 nw5 h5 tk5 g5 hP5 F5 N5 hG5 => ?_
    obtain ⟨rfl, rfl⟩ := hP5
    dsimp only
    k_steps
    refine wpR_of (Own.Spec.use0 (make_seg_spec _ _ _ _) C F5 N5 rfl hG5 (by omega) (by omega) fun v6 nw6 h6 tk6 g6 hP6 F6 N6 hap6 hG6 => ?_)
    obtain ⟨sx, sdx, rfl, hsx⟩ := hP6
    dsimp only [retOf]
    refine ⟨_, _, _, F6, N6, ?_, hG6, rfl, rfl⟩
    rw [hcnt] at hsx
    exact segMade_mk hps' rfl hsx (by k_mem) (by k_mem)
end
section
variable {w : World} {mg mb : Str → Option Value} {bm : Addr} {ob : Obj}
theorem mkseg13_bad (b : Array UInt8) (n : Nat) (hb : b.size = 2 * n) (hn0 : 0 < n) (hn : n ≤ 8) (hc : ∀ i, i < n → 161 ≤ (b.getD (2 * i + 1) 0).toNat) (hall : ((List.range n).all fun i => pairH ((b.getD (2 * i) 0).toNat : Int) ((b.getD (2 * i + 1) 0).toNat : Int)) = false) (t tm : Tok) (ps : Array Value) (hps : TriplesOk ps.toList) : SPX w mg mb bm ob 8 120 59 [.bytes b t, .int 13 tm] [] [(268, X.tableObj ps)]
    (fun _ _ => False) VErr := by
  w_on
  delta SPX
  k_fill
  refine' Own.specX_of (binds := [("data", .bytes b t), ("mode", .int 13 tm), ("encoding", .none)]) ?ho ?hcd ?hbind ?hloc ?hcell ?hb ?hco ?hgen ?hk ?hkd; (case ho => k_is); (case hcd => k_is); (case hbind => exact (fun s X => by first | (rcases hpos with rfl | rfl <;> first | exact binds_K X rfl (by k_is) rfl rfl rfl | exact BindsTo.of_eq rfl) | exact binds_K X rfl (by k_is) rfl rfl rfl | exact BindsTo.of_eq rfl)); (case hloc => exact (locs rfl)); (case hcell => decide); (case hco => exact rfl); (case hgen => exact rfl); (case hk => exact rfl); (case hkd => decide)
  intro dp un gd L outer A₀ base g h₁ gn d' tk os Xp C F N hsub hG hdp hu lv po
  have X' := C.X
  have T' := C.T
  have B' := C.B
  have M' := C.M
  have hlen : (KBw.bInts b).length = 2 * n := by rw [KBw.ints_length, hb]
  have hl1 : (KBw.bInts b).length ≤ 16 := by omega
  have hc0 : b.getD 1 0 ∈ b := by
    have : 1 < b.size := by omega
    simp [Array.getD, this]
  have hcnt : ((KBw.bInts b).length : Int).fdiv 2 = (n : Int) := by rw [hlen, Int.fdiv_eq_ediv_of_nonneg _ (by decide)]; omega
  refine wpR_execs_app (l₁ := [_, _, _]) (l₂ := _) ?_
  (try dsimp only)
  (try k_fold)
  k_steps
  have hGn := ‹AllBare _›
  have F1 := ‹Fr g L _ _›
  have N1 := ‹News g L _ _›
  refine wpR_execs_cons (wpR_Assign_Name (wpR_IfExp (wpR_of ?_)))
  k_fold
  k_steps
  refine wpR_CallName ?_
  k_fold
  k_steps
  refine wpR_callK (K := Mine02.hd.heap_39 w.params) (by k_is) ?_
  k_fold
  k_steps
  show wpR _ _ (call (.ref 85) [.bytes b t] []) _ _ _
  refine Own.SpecR.useV (findmode_spec b n hb hn0 hn (b.getD 1 0) hc0 (hc 0 hn0) t) C F1 N1 rfl hGn (by omega) (by omega) fun v nw h' tk' g' hP F' N' hG' => ?_
  obtain ⟨tkm, rfl⟩ := hP
  clear N1 F1 hGn
  generalize hgm : (if ((List.range n).all fun i => pairK ((b.getD (2 * i) 0).toNat : Int) ((b.getD (2 * i + 1) 0).toNat : Int)) = true then (8 : Int) else 4) = gm
  have hgm8 : gm = 8 ∨ gm = 4 := by rw [← hgm]; split; exact .inl rfl; exact .inr rfl
  (try k_fold)
  k_steps
  refine wpR_execs_app (l₁ := [_, _, _]) (l₂ := _) ?_
  (try k_fold)
  k_steps
  have hGn := ‹AllBare _›
  have F1 := ‹Fr g L _ _›
  have N1 := ‹News g L _ _›
  refine wpR_execs_cons (wpR_Assign_Name (wpR_CallName ?_))
  k_fold
  k_steps
  refine wpR_callK0 (K := Mine02.hd.heap_39 w.params) (C.X.keeps F1.keep) (by k_is) ?_
  refine Own.SpecR.use0 (buf_spec) C F1 N1 rfl hGn (by omega) (by omega) fun v nw h' tk' g' hP F' N' hap hG' => ?_
  obtain ⟨bf, dbf, dd, rfl, hq⟩ := hP
  have N2 : News g L h' [(bf, bufObj dbf dd), (dbf, dictOf [] 0), (dd, baObj []), (268, X.tableObj ps)] := news_sub N' (by
    intro q hq'
    simp only [List.mem_cons, List.not_mem_nil, or_false] at hq'
    rcases hq' with rfl | rfl | rfl | rfl
    · exact List.mem_append_left _ (hq _ (by k_mem))
    · exact List.mem_append_left _ (hq _ (by k_mem))
    · exact List.mem_append_left _ (hq _ (by k_mem))
    · exact List.mem_append_right _ (by k_mem))
  clear N' hap N1 F1 hGn
  dsimp only
  (try k_fold)
  k_steps
  refine wpR_execs_app (l₁ := [_]) (l₂ := [_, _]) ?_
  (try k_fold)
  k_steps
  refine wpR_execs_cons (wpR_If (wpR_of ?_))
  k_fold
  k_steps
  refine wpR_execs_cons (wpR_If (wpR_of ?_))
  k_fold
  k_steps
  refine wpR_execs_cons (wpR_If (wpR_of ?_))
  k_fold
  k_steps
  refine wpR_execs_cons (wpR_If (wpR_of ?_))
  k_fold
  k_steps
  have hGn := ‹AllBare _›
  refine wpR_execs_cons (wpR_For ?_)
  k_fold
  k_steps
  have F1 := ‹Fr g L _ _›
  have N1 := ‹News g L _ _›
  have hr := ‹IsRange _ _ 0 _ 2 _ _ _›
  refine wpAny_pyIter_range hr (by rw [hlen]; exact small2 n hn) ?_
  rw [hlen, size2 n hn]
  have F2 := keep_fr F1 (h' := _) fun b o e => Heap.get?_push_of_some (riObj 0 n 2) e
  have N2 := news_fresh F1 N1 (fun b o e => Heap.get?_push_of_some (riObj 0 n 2) e) (Heap.get?_push_size _ rfl)
  have hap := fun (q : Addr × Obj) hq => Nat.ne_of_lt (Heap.lt_size (N1 q hq).1)
  refine forS (n := n) (ob := fun i => riObj (0 + (i : Nat) * 2) ((n : Int) - (i : Nat)) 2) [Str.ofString "code", Str.ofString "diff"] (Steps.range rfl _ 0 2 n) rfl rfl
      (fun i nw => (∀ j, j < i → pairH ((b.getD (2 * j) 0).toNat : Int) ((b.getD (2 * j + 1) 0).toNat : Int) = true) ∧ ∃ ps', TriplesOk ps'.toList ∧ nw = [(_, methodObj (.ref 273) (.ref bf)), (bf, bufObj dbf dd), (dbf, dictOf [] 0), (dd, baObj ((List.range i).flatMap fun j => bitsOf (hanziV ((b.getD (2 * j) 0).toNat : Int) ((b.getD (2 * j + 1) 0).toNat : Int)) 13)), (268, X.tableObj ps')]) (fun _ _ _ _ _ => trivial) F2 (by simpa using N2) hap hGn ⟨fun j hj => absurd hj (Nat.not_lt_zero _), ps, hps, rfl⟩ ?_ ?_
  · rintro i v u news₁ h3 tk3 gn3 hi ⟨t', rfl⟩ ⟨hprev, ps', hps', rfl⟩ hap3 F3 N3 hG3
    dsimp only at N3 F3
    have hc0' : (b.getD (2 * i) 0).toNat < 256 := UInt8.toNat_lt _
    have hc1' : (b.getD (2 * i + 1) 0).toNat < 256 := UInt8.toNat_lt _
    refine wpR_mono (E := Xp) ?_ (fun _ _ q => q) (fun e s' h => po e s' h)
    generalize hcc : ((b.getD (2 * i) 0).toNat : Int) * 256 + ((b.getD (2 * i + 1) 0).toNat : Int) = cc
    have hpe : pairH ((b.getD (2 * i) 0).toNat : Int) ((b.getD (2 * i + 1) 0).toNat : Int) = (decide (41377 ≤ cc) && decide (cc ≤ 43774) || decide (45217 ≤ cc) && decide (cc ≤ 64254)) := by simp only [pairH, hcc]
    have hcb : cc < 65536 ∧ 0 ≤ cc := by omega
    have hpk : ((41377 ≤ cc ∧ cc ≤ 43774) ∨ (45217 ≤ cc ∧ cc ≤ 64254)) ∨ cc < 41377 ∨ (43774 < cc ∧ cc < 45217) ∨ 64254 < cc := by omega
    have hgood : ((41377 ≤ cc ∧ cc ≤ 43774) ∨ (45217 ≤ cc ∧ cc ≤ 64254)) → ∀ j, j < i + 1 → pairH ((b.getD (2 * j) 0).toNat : Int) ((b.getD (2 * j + 1) 0).toNat : Int) = true := by
      intro hg j hj
      rcases Nat.lt_or_ge j i with h | h
      · exact hprev j h
      · have : j = i := by omega
        subst this
        rw [hpe]
        simp only [Bool.or_eq_true, Bool.and_eq_true, decide_eq_true_eq]
        exact hg
    clear hpe
    refine wpR_execs_cons (wpR_Assign_Name (wpR_of (wpAny_mono (Q := IntAt cc h3 gn3 d' os) ?_ ?_ (fun _ _ e => e))))
    · (try k_fold)
      k_steps
      exact ⟨_, _, congrArg (fun z => Value.int z _) ((or_bytes _ _ hc1').trans hcc), rfl⟩
    rintro v s' ⟨t5, tk5, rfl, rfl⟩
    (try k_fold)
    k_steps
    clear hall
    rcases hpk with (hpk | hpk) | hpk | hpk | hpk
    · refine wpR_execs_app (l₁ := [_]) (l₂ := [_]) ?_
      (try k_fold)
      k_steps
      refine wpR_execs_cons (wpR_Expr (wpR_CallName ?_))
      k_fold
      k_steps
      refine wpR_callM (K := Mine02.hd.heap_39 w.params) (g := 273) (self := .ref bf) (h₀ := g) (L := L) (news := []) (by k_is) ?_
      k_fold
      k_steps
      have F5 := ‹Fr g L _ _›
      have N5 := ‹News g L _ _›
      rw [hanziV_lo hcc hpk.1 hpk.2]
      refine Own.SpecR.useM (f := 273) (self := .ref bf) (append_bits_spec bf dbf dd ((List.range i).flatMap fun j => bitsOf (hanziV ((b.getD (2 * j) 0).toNat : Int) ((b.getD (2 * j + 1) 0).toNat : Int)) 13) (hanziV ((b.getD (2 * i) 0).toNat : Int) ((b.getD (2 * i + 1) 0).toNat : Int)) 13 _ _ ps' (by decide) (by rw [bits_len (fun j => hanziV ((b.getD (2 * j) 0).toNat : Int) ((b.getD (2 * j + 1) 0).toNat : Int))]; omega) hps') (N5.get (by k_mem)) C F5 N5 rfl (by walk_at "my_mems") hG3 (by omega) (by omega) fun v nw h' tk' g' hP F' N' hap' hG' => ?_
      obtain ⟨rfl, ps2, rfl, hps2⟩ := hP
      refine ⟨rfl, wpR_execs_nil ?_⟩
      refine ⟨_, _, ⟨hgood (by omega), ps2, hps2, rfl⟩, ?_, ?_, F', ?_, hG', rfl, rfl⟩
      · intro y h1 h2
        have h3 : y ≠ Str.ofString "code" := by rintro rfl; simp at h2
        have h4 : y ≠ Str.ofString "diff" := by rintro rfl; simp at h2
        simp only [if_neg h1, if_neg h3, if_neg h4, h2, Bool.false_eq_true, if_false]
      · exact app_hap hap3
      · have := app_led (bs' := (List.range (i + 1)).flatMap fun j => bitsOf (hanziV ((b.getD (2 * j) 0).toNat : Int) ((b.getD (2 * j + 1) 0).toNat : Int)) 13) N5 hap3 (ps' := ps2) (by rw [bits_succ (fun j => hanziV ((b.getD (2 * j) 0).toNat : Int) ((b.getD (2 * j + 1) 0).toNat : Int))]; exact N')
        exact this
    · refine wpR_execs_app (l₁ := [_]) (l₂ := [_]) ?_
      (try k_fold)
      k_steps
      refine wpR_execs_cons (wpR_Expr (wpR_CallName ?_))
      k_fold
      k_steps
      refine wpR_callM (K := Mine02.hd.heap_39 w.params) (g := 273) (self := .ref bf) (h₀ := g) (L := L) (news := []) (by k_is) ?_
      k_fold
      k_steps
      have F5 := ‹Fr g L _ _›
      have N5 := ‹News g L _ _›
      rw [hanziV_hi hcc hpk.1 hpk.2]
      refine Own.SpecR.useM (f := 273) (self := .ref bf) (append_bits_spec bf dbf dd ((List.range i).flatMap fun j => bitsOf (hanziV ((b.getD (2 * j) 0).toNat : Int) ((b.getD (2 * j + 1) 0).toNat : Int)) 13) (hanziV ((b.getD (2 * i) 0).toNat : Int) ((b.getD (2 * i + 1) 0).toNat : Int)) 13 _ _ ps' (by decide) (by rw [bits_len (fun j => hanziV ((b.getD (2 * j) 0).toNat : Int) ((b.getD (2 * j + 1) 0).toNat : Int))]; omega) hps') (N5.get (by k_mem)) C F5 N5 rfl (by walk_at "my_mems") hG3 (by omega) (by omega) fun v nw h' tk' g' hP F' N' hap' hG' => ?_
      obtain ⟨rfl, ps2, rfl, hps2⟩ := hP
      refine ⟨rfl, wpR_execs_nil ?_⟩
      refine ⟨_, _, ⟨hgood (by omega), ps2, hps2, rfl⟩, ?_, ?_, F', ?_, hG', rfl, rfl⟩
      · intro y h1 h2
        have h3 : y ≠ Str.ofString "code" := by rintro rfl; simp at h2
        have h4 : y ≠ Str.ofString "diff" := by rintro rfl; simp at h2
        simp only [if_neg h1, if_neg h3, if_neg h4, h2, Bool.false_eq_true, if_false]
      · exact app_hap hap3
      · have := app_led (bs' := (List.range (i + 1)).flatMap fun j => bitsOf (hanziV ((b.getD (2 * j) 0).toNat : Int) ((b.getD (2 * j + 1) 0).toNat : Int)) 13) N5 hap3 (ps' := ps2) (by rw [bits_succ (fun j => hanziV ((b.getD (2 * j) 0).toNat : Int) ((b.getD (2 * j + 1) 0).toNat : Int))]; exact N')
        exact this
    iterate 3
      · refine wpR_execs_app (l₁ := [_]) (l₂ := [_]) ?_
        (try k_fold)
        k_steps
        exact lv _ _ _ _ _ _ ‹Heap.NewExc _ _ _ _› (by k_asm) ‹News g L _ _› ⟨rfl, ps', hps', by k_mem⟩ (by assumption) rfl rfl
  · intro u news' h4 tk4 gn4 hJ4 F4 N4 hG4
    exfalso
    obtain ⟨hgoods, _⟩ := hJ4
    have : ((List.range n).all fun i => pairH ((b.getD (2 * i) 0).toNat : Int) ((b.getD (2 * i + 1) 0).toNat : Int)) = true := List.all_eq_true.mpr fun i hi => hgoods i (List.mem_range.mp hi)
    rw [hall] at this; cases this
end
end
section
variable {w : World} {mg mb : Str → Option Value} {bm : Addr} {ob : Obj}
abbrev sgsObj (dx : Addr) (n : Int) (t : Tok) (lm ls : Addr) : Obj := ⟨.ref 147, some dx, .plain, #[some (.int n t), some (.ref lm), some (.ref ls)]⟩
theorem sinit_mk {b dx lm ls : Addr} {t : Tok} (hne : @Ne Nat ls lm) : ∃ t' lm' ls', @Ne Nat ls' lm' ∧ ∀ q ∈ [(b, sgsObj dx 0 t' lm' ls'), (dx, dictOf [] 0), (ls', listOf #[] 0), (lm', listOf #[] 0)], q ∈ [(lm, listOf #[] 0), (ls, listOf #[] 0), (b, sgsObj dx 0 t lm ls), (dx, dictOf [] 0)] :=
  ⟨t, lm, ls, hne, by simp⟩
theorem sinit_spec (b dx : Addr) : SPR w mg mb bm ob 3 40 107 [.ref b] [] [(b, ⟨.ref 147, some dx, .plain, #[]⟩), (dx, dictOf [] 0)]
      (fun r nw => r = .none ∧ ∃ t lm ls, @Ne Nat ls lm ∧ ∀ q ∈ [(b, sgsObj dx 0 t lm ls), (dx, dictOf [] 0), (ls, listOf #[] 0), (lm, listOf #[] 0)], q ∈ nw) := by
  walk_at "my_startR"
  intro dp un gd L outer A₀ base g h₁ gn d' tk os C F N hsub hG hdp hu
  have X' := C.X
  have T' := C.T
  have B' := C.B
  have M' := C.M
  have hbx := news_ne N (a := b) (b := dx) (by k_mem) (by k_mem) ref_ne_type
  refine wpR_of ?_
  k_fold
  k_steps
  walk_at "my_ret"
  refine ⟨rfl, sinit_mk ?_⟩
  omega
theorem sgs_makes' : PySem.Challenge.rw_im0109_02.row.prog = PySem.Challenge.rw_im0109_02.row.prog → makesIn (hd.heap_39 w.params) 147 = true := by
  w_on
  k_fill
  intro _
  k_is
/-- Segments() -/
theorem sgs_spec : SPR w mg mb bm ob 4 60 147 [] [] []
      (fun r nw => ∃ b dx t lm ls, r = .ref b ∧ @Ne Nat ls lm ∧ ∀ q ∈ [(b, sgsObj dx 0 t lm ls), (dx, dictOf [] 0), (ls, listOf #[] 0), (lm, listOf #[] 0)], q ∈ nw) := by
  w_on
  delta SPR
  k_fill
  intro dp un gd cn cs L a ccd cl outer A₀ base h₀ m' news s R C F N hcs hsub hG hdp hu hret
  have X := C.X.keeps F.keep
  obtain ⟨hp, gn, dr, tk, os⟩ := s
  refine make_coreR (C := 147) (fI := 107) X (makes_of X (sgs_makes' rfl)) (cd := _) (by k_is) rfl (by k_is) (by k_is) ?_
  rw [under_tc]
  have hs := sinit_spec (w := w) (mg := mg) (mb := mb) (bm := bm) (ob := ob) (hp.objs.size + 1) hp.objs.size
  have k : ∀ b o, hp.get? b = some o → ((hp.push emptyDict).push (instObj 147 hp.objs.size)).get? b = some o := fun b o e => Heap.get?_push_of_some _ (Heap.get?_push_of_some _ e)
  have N1 := news_fresh F N (k := fun b o e => Heap.get?_push_of_some emptyDict e) (Heap.get?_push_size _ rfl)
  have F1 := keep_fr F (fun b o e => Heap.get?_push_of_some emptyDict e)
  have N2 := news_fresh F1 N1 (k := fun b o e => Heap.get?_push_of_some (instObj 147 hp.objs.size) e) (Heap.get?_push_size _ rfl)
  have F2 := keep_fr F k
  rw [Heap.size_push] at N2
  refine hs (dp + 1) (un + 1) gd cn cs L a ccd cl outer A₀ base h₀ m' _ _ _ C F2 N2 hcs ?_ hG (by omega) (by omega) fun v nw h' tk' g' hP F' hN hap hG' => ?_
  · walk_at "my_mems"
  · obtain ⟨rfl, t, lm, ls, hne, hq⟩ := hP
    refine ⟨rfl, hret _ nw h' tk' g' ⟨_, _, t, lm, ls, rfl, hne, hq⟩ F' (fun l hl => hN l fun q hq' => ?_) ?_ hG'⟩
    · rcases hl q hq' with h1 | ⟨h1, _⟩
      · exact .inl h1
      · refine .inr ⟨.tail _ (.tail _ h1), fun hm => ?_⟩
        have hlt := Heap.lt_size (N q h1).1
        simp only [List.map_cons, List.map_nil, List.mem_cons, List.not_mem_nil, or_false] at hm
        rcases hm with e | e
        · rw [e] at hlt; exact Nat.lt_irrefl _ (Nat.lt_of_succ_lt hlt)
        · rw [e] at hlt; exact Nat.lt_irrefl _ hlt
    · intro q h1 _ q' hq'
      refine hap q (.tail _ (.tail _ h1)) (fun hm => ?_) q' hq'
      have hlt := Heap.lt_size (N q h1).1
      simp only [List.map_cons, List.map_nil, List.mem_cons, List.not_mem_nil, or_false] at hm
      rcases hm with e | e
      · rw [e] at hlt; exact Nat.lt_irrefl _ (Nat.lt_of_succ_lt hlt)
      · rw [e] at hlt; exact Nat.lt_irrefl _ hlt
end
section
local macro_rules | `(tactic| walk_at "truthy ref") => `(tactic| (k_here; (with_reducible show wpAny _ _ (truthy (Value.ref _)) _ _ _); refine' Own.truthy_listN ?n ?m ?z ?_; (case n => k_asm); (case m => k_mem); (case z => first | decide | (simp; omega) | omega); intro _; (try simp only [Array.isEmpty_push, List.isEmpty_toArray, List.isEmpty_nil, Bool.not_true, Bool.not_false])))
local macro_rules | `(tactic| walk_at "call builtin:len") => `(tactic| (k_here; (with_reducible show wpAny _ _ (call (Value.builtin "len") [Value.ref _]) _ _ _); refine' Own.len_baN ?n ?m ?z ?_; (case n => k_asm); (case m => k_mem); (case z => (rw [sizeLine_eq]; omega)); (try intro _ _)))
local macro_rules | `(tactic| walk_at "getAttr ref") => `(tactic| (k_here; (with_reducible show wpAny _ _ (getAttr (Value.ref _) (PySem.Str.ofString "bits") _) _ _ _); refine' get_seg_bits ?c ?f ?n ?h1 ?h2 ?g ?d ?u ?k ?v ?_; (case c => assumption); (case f => k_asm); (case n => k_asm); (case h1 => k_mem); (case h2 => k_mem); (case g => assumption); (case d => omega); (case u => omega); (case k => rfl); (case v => rfl); intro h' tk' g' F' N' G'))
local macro_rules | `(tactic| walk_at "getAttr ref") => `(tactic| (k_here; (with_reducible show wpAny _ _ (getAttr (Value.ref _) (PySem.Str.ofString "mode") _) _ _ _); refine' get_seg_mode ?c ?f ?n ?h1 ?h2 ?g ?d ?u ?k ?v ?_; (case c => assumption); (case f => k_asm); (case n => k_asm); (case h1 => k_mem); (case h2 => k_mem); (case g => assumption); (case d => omega); (case u => omega); (case k => rfl); (case v => rfl); intro h' tk' g' F' N' G'))
local macro_rules | `(tactic| walk_at "my_cls") => `(tactic| (first | exact ref_ne_type | exact Ne.symm ref_ne_type | (intro h; cases h; done) | (simp [dictOf]; done) | decide))
local macro_rules | `(tactic| walk_at "subscriptTail") => `(tactic| (k_here; (with_reducible show wpAny _ _ (subscriptTail _ _ (Value.ref _) (Value.int (-1) _)) _ _ _); refine' Own.last_listN ?n ?m ?_ ?s; (case n => k_asm); (case m => k_mem); (case s => with_unfolding_all rfl)))
local macro_rules | `(tactic| walk_at "call builtin:list.append") => `(tactic| (k_here; (with_reducible show wpAny _ _ (call (Value.builtin _) [Value.ref _, _]) _ _ _); k_dflt (refine' append_K ?k1 ?k2 ?k3 ?_ ?z; (case k1 => k_asm); (case k2 => k_asm); (case k3 => k_upd); (case z => first | (rw [sizeLine_eq]; simp only [Array.size_push]; omega) | (rw [sizeLine_eq]; omega) | size_fits); k_whole); intro h' F' N'; (try k_sweep)))
section
variable {w : World} {mg mb : Str → Option Value} {bm : Addr} {ob : Obj}
theorem addseg0_spec (x dx lm ls sx sdx dd : Addr) (n c m : Int) (t tc tm : Tok) (e : Value) (bits : List Int) (c1 c2 : Nat) (hbl : bits.length ≤ 1000) (hll : @Ne Nat ls lm) :
    SP w mg mb bm ob 5 60 114 [.ref x, .ref sx] [] ([(x, sgsObj dx n t lm ls), (dx, dictOf [] 0), (ls, listOf #[] c1), (lm, listOf #[] c2)] ++ segL sx sdx (.ref dd) (.int c tc) (.int m tm) e ++ [(dd, baObj bits)])
      (fun r nw => r = .none ∧ ∃ t' c1' c2', nw = [(x, sgsObj dx (n + bits.length) t' lm ls), (dx, dictOf [] 0), (ls, listOf #[.ref sx] c1'), (lm, listOf #[.int m tm] c2'), (sx, segObj sdx [.ref dd, .int c tc, .int m tm, e]), (sdx, dictOf [] 0), (dd, baObj bits)]) := by
  walk_at "my_start"
  intro dp un gd L outer A₀ base g h₁ gn d' tk os C F N hsub hG hdp hu
  have X' := C.X
  have T' := C.T
  have B' := C.B
  have M' := C.M
  simp only [List.cons_append, List.nil_append] at N hsub
  have qlsx := news_ne N (a := ls) (b := x) (by k_mem) (by k_mem) (by walk_at "my_cls")
  have qlsdx := news_ne N (a := ls) (b := dx) (by k_mem) (by k_mem) (by walk_at "my_cls")
  have qlssx := news_ne N (a := ls) (b := sx) (by k_mem) (by k_mem) (by walk_at "my_cls")
  have qlssdx := news_ne N (a := ls) (b := sdx) (by k_mem) (by k_mem) (by walk_at "my_cls")
  have qlsdd := news_ne N (a := ls) (b := dd) (by k_mem) (by k_mem) (by walk_at "my_cls")
  have qlmx := news_ne N (a := lm) (b := x) (by k_mem) (by k_mem) (by walk_at "my_cls")
  have qlmdx := news_ne N (a := lm) (b := dx) (by k_mem) (by k_mem) (by walk_at "my_cls")
  have qlmsx := news_ne N (a := lm) (b := sx) (by k_mem) (by k_mem) (by walk_at "my_cls")
  have qlmsdx := news_ne N (a := lm) (b := sdx) (by k_mem) (by k_mem) (by walk_at "my_cls")
  have qlmdd := news_ne N (a := lm) (b := dd) (by k_mem) (by k_mem) (by walk_at "my_cls")
  have qxdx := news_ne N (a := x) (b := dx) (by k_mem) (by k_mem) (by walk_at "my_cls")
  have qxsx := news_ne N (a := x) (b := sx) (by k_mem) (by k_mem) (by walk_at "my_cls")
  have qxsdx := news_ne N (a := x) (b := sdx) (by k_mem) (by k_mem) (by walk_at "my_cls")
  have qxdd := news_ne N (a := x) (b := dd) (by k_mem) (by k_mem) (by walk_at "my_cls")
  (try dsimp only)
  (try k_fold)
  k_steps
  (try dsimp only)
  walk_at "my_ret"
  exact ⟨rfl, _, _, _, rfl⟩
end
end
section
local macro_rules | `(tactic| walk_at "truthy ref") => `(tactic| (k_here; (with_reducible show wpAny _ _ (truthy (Value.ref _)) _ _ _); refine' Own.truthy_listN1 ?n ?m ?p ?z ?_; (case n => k_asm); (case m => k_mem); (case p => assumption); (case z => omega); intro _))
local macro_rules | `(tactic| walk_at "call builtin:len") => `(tactic| (k_here; (with_reducible show wpAny _ _ (call (Value.builtin "len") [Value.ref _]) _ _ _); refine' Own.len_baN ?n ?m ?z ?_; (case n => k_asm); (case m => k_mem); (case z => (rw [sizeLine_eq]; omega)); (try intro _ _)))
local macro_rules | `(tactic| walk_at "getAttr ref") => `(tactic| (k_here; (with_reducible show wpAny _ _ (getAttr (Value.ref _) (PySem.Str.ofString "bits") _) _ _ _); refine' get_seg_bits ?c ?f ?n ?h1 ?h2 ?g ?d ?u ?k ?v ?_; (case c => assumption); (case f => k_asm); (case n => k_asm); (case h1 => k_mem); (case h2 => k_mem); (case g => assumption); (case d => omega); (case u => omega); (case k => rfl); (case v => rfl); intro h' tk' g' F' N' G'))
local macro_rules | `(tactic| walk_at "getAttr ref") => `(tactic| (k_here; (with_reducible show wpAny _ _ (getAttr (Value.ref _) (PySem.Str.ofString "mode") _) _ _ _); refine' get_seg_mode ?c ?f ?n ?h1 ?h2 ?g ?d ?u ?k ?v ?_; (case c => assumption); (case f => k_asm); (case n => k_asm); (case h1 => k_mem); (case h2 => k_mem); (case g => assumption); (case d => omega); (case u => omega); (case k => rfl); (case v => rfl); intro h' tk' g' F' N' G'))
local macro_rules | `(tactic| walk_at "my_cls") => `(tactic| (first | exact ref_ne_type | exact Ne.symm ref_ne_type | (intro h; cases h; done) | (simp [dictOf]; done) | decide))
local macro_rules | `(tactic| walk_at "subscriptTail") => `(tactic| (k_here; (with_reducible show wpAny _ _ (subscriptTail _ _ (Value.ref _) (Value.int (-1) _)) _ _ _); refine' Own.last_listO ?n ?m ?l ?_ ?s; (case n => k_asm); (case m => k_mem); (case l => assumption); (case s => with_unfolding_all rfl)))
local macro_rules | `(tactic| walk_at "call builtin:list.append") => `(tactic| (k_here; (with_reducible show wpAny _ _ (call (Value.builtin _) [Value.ref _, _]) _ _ _); k_dflt (refine' append_K ?k1 ?k2 ?k3 ?_ ?z; (case k1 => k_asm); (case k2 => k_asm); (case k3 => k_upd); (case z => first | (rw [sizeLine_eq]; simp only [Array.size_push]; omega) | (rw [sizeLine_eq]; omega) | size_fits); k_whole); intro h' F' N'; (try k_sweep)))
local macro_rules | `(tactic| walk_at "my_ne1") => `(tactic| ((try dsimp only); first | exact (by assumption : @Ne Nat _ _) | exact Ne.symm (by assumption : @Ne Nat _ _)))
local macro_rules | `(tactic| k_upd) => `(tactic| first | (refine' Upd.head ?a; (case a => (repeat (first | exact List.forall_mem_nil _ | refine List.forall_mem_cons.mpr ⟨by walk_at "my_ne1", ?_⟩)))) | (refine' Upd.tail ?a ?b; (case a => walk_at "my_ne1"); (case b => k_upd)))
section
variable {w : World} {mg mb : Str → Option Value} {bm : Addr} {ob : Obj}
theorem addseg1_spec (x dx lm ls px pdx sx sdx dd : Addr) (n c m pm : Int) (t tc tm ptm : Tok) (pb pc pe e : Value) (bits : List Int) (its ms : Array Value) (hlast : its[its.size - 1]? = some (.ref px)) (hpos : 0 < its.size) (c1 c2 : Nat) (hbl : bits.length ≤ 1000) (hll : @Ne Nat ls lm) (hpm : pm ≠ m) (hi1 : its.size ≤ 100) (hi2 : ms.size ≤ 100) :
    SP w mg mb bm ob 5 60 114 [.ref x, .ref sx] [] ([(x, sgsObj dx n t lm ls), (dx, dictOf [] 0), (ls, listOf its c1), (lm, listOf ms c2)] ++ segL px pdx pb pc (.int pm ptm) pe ++ segL sx sdx (.ref dd) (.int c tc) (.int m tm) e ++ [(dd, baObj bits)])
      (fun r nw => r = .none ∧ ∃ t' c1' c2', nw = [(x, sgsObj dx (n + bits.length) t' lm ls), (dx, dictOf [] 0), (ls, listOf (its.push (.ref sx)) c1'), (lm, listOf (ms.push (.int m tm)) c2'), (px, segObj pdx [pb, pc, .int pm ptm, pe]), (pdx, dictOf [] 0), (sx, segObj sdx [.ref dd, .int c tc, .int m tm, e]), (sdx, dictOf [] 0), (dd, baObj bits)]) := by
  walk_at "my_start"
  intro dp un gd L outer A₀ base g h₁ gn d' tk os C F N hsub hG hdp hu
  have X' := C.X
  have T' := C.T
  have B' := C.B
  have M' := C.M
  simp only [List.cons_append, List.nil_append] at N hsub
  have qlsx := news_ne N (a := ls) (b := x) (by k_mem) (by k_mem) (by walk_at "my_cls")
  have qlsdx := news_ne N (a := ls) (b := dx) (by k_mem) (by k_mem) (by walk_at "my_cls")
  have qlspx := news_ne N (a := ls) (b := px) (by k_mem) (by k_mem) (by walk_at "my_cls")
  have qlspdx := news_ne N (a := ls) (b := pdx) (by k_mem) (by k_mem) (by walk_at "my_cls")
  have qlssx := news_ne N (a := ls) (b := sx) (by k_mem) (by k_mem) (by walk_at "my_cls")
  have qlssdx := news_ne N (a := ls) (b := sdx) (by k_mem) (by k_mem) (by walk_at "my_cls")
  have qlsdd := news_ne N (a := ls) (b := dd) (by k_mem) (by k_mem) (by walk_at "my_cls")
  have qlmx := news_ne N (a := lm) (b := x) (by k_mem) (by k_mem) (by walk_at "my_cls")
  have qlmdx := news_ne N (a := lm) (b := dx) (by k_mem) (by k_mem) (by walk_at "my_cls")
  have qlmpx := news_ne N (a := lm) (b := px) (by k_mem) (by k_mem) (by walk_at "my_cls")
  have qlmpdx := news_ne N (a := lm) (b := pdx) (by k_mem) (by k_mem) (by walk_at "my_cls")
  have qlmsx := news_ne N (a := lm) (b := sx) (by k_mem) (by k_mem) (by walk_at "my_cls")
  have qlmsdx := news_ne N (a := lm) (b := sdx) (by k_mem) (by k_mem) (by walk_at "my_cls")
  have qlmdd := news_ne N (a := lm) (b := dd) (by k_mem) (by k_mem) (by walk_at "my_cls")
  have qxdx := news_ne N (a := x) (b := dx) (by k_mem) (by k_mem) (by walk_at "my_cls")
  have qxpx := news_ne N (a := x) (b := px) (by k_mem) (by k_mem) (by walk_at "my_cls")
  have qxpdx := news_ne N (a := x) (b := pdx) (by k_mem) (by k_mem) (by walk_at "my_cls")
  have qxsx := news_ne N (a := x) (b := sx) (by k_mem) (by k_mem) (by walk_at "my_cls")
  have qxsdx := news_ne N (a := x) (b := sdx) (by k_mem) (by k_mem) (by walk_at "my_cls")
  have qxdd := news_ne N (a := x) (b := dd) (by k_mem) (by k_mem) (by walk_at "my_cls")
  (try dsimp only)
  (try k_fold)
  k_steps
  · first | exact absurd (by assumption) hpm | (exfalso; simp_all; done)
  (try dsimp only)
  walk_at "my_ret"
  exact ⟨rfl, _, _, _, rfl⟩
end
section
variable {w : World} {mg mb : Str → Option Value} {bm : Addr} {ob : Obj}
theorem bitsOf_len (v : Int) (n : Nat) : (bitsOf v n).length = n := by simp [bitsOf]
/-- the ledger of write_segment behind a call of append_bits -/
theorem ws_led {g h h' : Heap} {L b dx d q sx sdx dd : Addr} {bs bs' sbits : List Int} {ps ps' : Array Value} {vb vc vm e : Value}
    (N : News g L h [(b, bufObj dx d), (dx, dictOf [] 0), (d, baObj bs), (268, X.tableObj ps), (q, methodObj (.ref 273) (.ref b)), (sx, segObj sdx [vb, vc, vm, e]), (sdx, dictOf [] 0), (dd, baObj sbits)]) (hdd : @Ne Nat dd d)
    (hN : ∀ l : Led, (∀ r ∈ l, r ∈ [(b, bufObj dx d), (dx, dictOf [] 0), (d, baObj bs'), (268, X.tableObj ps')] ∨ (r ∈ [(b, bufObj dx d), (dx, dictOf [] 0), (d, baObj bs), (268, X.tableObj ps), (q, methodObj (.ref 273) (.ref b)), (sx, segObj sdx [vb, vc, vm, e]), (sdx, dictOf [] 0), (dd, baObj sbits)] ∧ r.1 ∉ [(b, bufObj dx d), (dx, dictOf [] 0), (d, baObj bs), (268, X.tableObj ps)].map (·.1))) → News g L h' l) :
    News g L h' [(b, bufObj dx d), (dx, dictOf [] 0), (d, baObj bs'), (268, X.tableObj ps'), (q, methodObj (.ref 273) (.ref b)), (sx, segObj sdx [vb, vc, vm, e]), (sdx, dictOf [] 0), (dd, baObj sbits)] := by
  have a1 := news_ne N (a := q) (b := d) (by k_mem) (by k_mem) (by simp [baObj])
  have a2 := news_ne N (a := q) (b := 268) (by k_mem) (by k_mem) (by intro h; cases h)
  have a3 := news_ne N (a := sx) (b := d) (by k_mem) (by k_mem) (by intro h; cases h)
  have a4 := news_ne N (a := sx) (b := 268) (by k_mem) (by k_mem) (by intro h; cases h)
  have a5 := news_ne N (a := sdx) (b := d) (by k_mem) (by k_mem) (by simp [dictOf])
  have a6 := news_ne N (a := sdx) (b := 268) (by k_mem) (by k_mem) (by intro h; cases h)
  have a7 := news_ne N (a := dd) (b := 268) (by k_mem) (by k_mem) (by intro h; cases h)
  refine Own.upd_led [d, 268] N (sub := [(b, bufObj dx d), (dx, dictOf [] 0), (d, baObj bs), (268, X.tableObj ps)]) (nw := [(b, bufObj dx d), (dx, dictOf [] 0), (d, baObj bs'), (268, X.tableObj ps')]) (rest := [(q, methodObj (.ref 273) (.ref b)), (sx, segObj sdx [vb, vc, vm, e]), (sdx, dictOf [] 0), (dd, baObj sbits)]) ?_ ?_ hN ?_
  · intro r hr
    exact List.mem_append_left [(q, methodObj (.ref 273) (.ref b)), (sx, segObj sdx [vb, vc, vm, e]), (sdx, dictOf [] 0), (dd, baObj sbits)] hr
  · intro r hr
    simp only [List.mem_cons, List.not_mem_nil, or_false] at hr
    rcases hr with rfl | rfl | rfl | rfl
    · exact .inr (by k_mem)
    · exact .inr (by k_mem)
    · exact .inl (.head _)
    · exact .inl (.tail _ (.head _))
  · intro r hr
    refine ⟨List.mem_append_right [(b, bufObj dx d), (dx, dictOf [] 0), (d, baObj bs), (268, X.tableObj ps)] hr, ?_⟩
    simp only [List.mem_cons, List.not_mem_nil, or_false] at hr ⊢
    rcases hr with rfl | rfl | rfl | rfl
    · exact not_or.mpr ⟨a1, a2⟩
    · exact not_or.mpr ⟨a3, a4⟩
    · exact not_or.mpr ⟨a5, a6⟩
    · exact not_or.mpr ⟨hdd, a7⟩
theorem ws_led2 {g h h' : Heap} {L b dx d q sx sdx dd : Addr} {bs bs' sbits : List Int} {ps : Array Value} {vb vc vm e : Value}
    (N : News g L h [(b, bufObj dx d), (dx, dictOf [] 0), (d, baObj bs), (268, X.tableObj ps), (q, methodObj (.ref 273) (.ref b)), (sx, segObj sdx [vb, vc, vm, e]), (sdx, dictOf [] 0), (dd, baObj sbits)])
    (hN : ∀ l : Led, (∀ r ∈ l, r ∈ [(b, bufObj dx d), (dx, dictOf [] 0), (d, baObj bs'), (dd, baObj sbits)] ∨ (r ∈ [(b, bufObj dx d), (dx, dictOf [] 0), (d, baObj bs), (268, X.tableObj ps), (q, methodObj (.ref 273) (.ref b)), (sx, segObj sdx [vb, vc, vm, e]), (sdx, dictOf [] 0), (dd, baObj sbits)] ∧ r.1 ∉ [(b, bufObj dx d), (dx, dictOf [] 0), (d, baObj bs), (dd, baObj sbits)].map (·.1))) → News g L h' l) :
    News g L h' [(b, bufObj dx d), (dx, dictOf [] 0), (d, baObj bs'), (268, X.tableObj ps), (sx, segObj sdx [vb, vc, vm, e]), (sdx, dictOf [] 0), (dd, baObj sbits)] := by
  have a2 := news_ne N (a := 268) (b := d) (by k_mem) (by k_mem) (by intro h; cases h)
  have a3 := news_ne N (a := sx) (b := d) (by k_mem) (by k_mem) (by intro h; cases h)
  have a5 := news_ne N (a := sdx) (b := d) (by k_mem) (by k_mem) (by simp [dictOf])
  have := Own.upd_led [d] N (sub := [(b, bufObj dx d), (dx, dictOf [] 0), (d, baObj bs), (dd, baObj sbits)]) (nw := [(b, bufObj dx d), (dx, dictOf [] 0), (d, baObj bs'), (dd, baObj sbits)]) (rest := [(268, X.tableObj ps), (sx, segObj sdx [vb, vc, vm, e]), (sdx, dictOf [] 0)]) (by
      intro r hr
      simp only [List.mem_cons, List.not_mem_nil, or_false] at hr
      rcases hr with rfl | rfl | rfl | rfl <;> k_mem) (by
      intro r hr
      simp only [List.mem_cons, List.not_mem_nil, or_false] at hr
      rcases hr with rfl | rfl | rfl | rfl
      · exact .inr (by k_mem)
      · exact .inr (by k_mem)
      · exact .inl (.head _)
      · exact .inr (by k_mem)) hN (by
      intro r hr
      simp only [List.mem_cons, List.not_mem_nil, or_false] at hr ⊢
      rcases hr with rfl | rfl | rfl
      · exact ⟨by simp, a2⟩
      · exact ⟨by simp, a3⟩
      · exact ⟨by simp, a5⟩)
  refine news_sub this fun r hr => ?_
  simp only [List.mem_cons, List.not_mem_nil, or_false] at hr
  rcases hr with rfl | rfl | rfl | rfl | rfl | rfl | rfl <;> simp
end
section
variable {w : World} {mg mb : Str → Option Value} {bm : Addr} {ob : Obj}
theorem numOf_snoc (l : List Int) (b : Int) : numOf (l ++ [b]) = 2 * numOf l + b := by simp [numOf]
theorem bitsOf_snoc (v : Int) (n : Nat) : bitsOf v (n + 1) = bitsOf (v / 2) n ++ [v % 2] := by
  unfold bitsOf
  rw [List.range_succ, List.map_append]
  congr 1
  · refine List.map_congr_left fun i hi => ?_
    have hi' := List.mem_range.mp hi
    have e : n + 1 - 1 - i = (n - 1 - i) + 1 := by omega
    rw [e, Int.pow_succ, Int.mul_comm, ← Int.ediv_ediv_of_nonneg (by decide)]
  · simp
theorem half_mod (v m : Int) (hm : 0 < m) : 2 * (v / 2 % m) + v % 2 = v % (2 * m) := by
  have h1 := Int.mul_ediv_add_emod (v / 2) m
  have h2 := Int.emod_nonneg (v / 2) (Int.ne_of_gt hm)
  have h3 := Int.emod_lt_of_pos (v / 2) hm
  have e : v = (2 * (v / 2 % m) + v % 2) + (2 * m) * (v / 2 / m) := by
    have : (2 * m) * (v / 2 / m) = 2 * (m * (v / 2 / m)) := by rw [Int.mul_assoc]
    rw [this]; omega
  have h4 : v % (2 * m) = (2 * (v / 2 % m) + v % 2) % (2 * m) := by
    conv => lhs; rw [e]
    rw [Int.add_mul_emod_self_left]
  exact (h4.trans (Int.emod_eq_of_lt (by omega) (by omega))).symm
theorem numOf_bits : ∀ (n : Nat) (v : Int), numOf (bitsOf v n) = v % 2 ^ n
  | 0, v => by simp [numOf, bitsOf]
  | n + 1, v => by
    rw [bitsOf_snoc, numOf_snoc, numOf_bits n]
    have h2 : (2 : Int) ^ (n + 1) = 2 * 2 ^ n := by rw [Int.pow_succ, Int.mul_comm]
    rw [h2]
    exact half_mod v (2 ^ n) (Int.pow_pos (by decide))
theorem num_bits {n : Nat} {v : Int} (h0 : 0 ≤ v) (h1 : v < 2 ^ n) : numOf (bitsOf v n) = v := by rw [numOf_bits, Int.emod_eq_of_lt h0 h1]
theorem kanji_back {a b : Int} (hb : 161 ≤ b ∧ b ≤ 252) (h : pairK a b = true) : 0 ≤ kanjiV a b ∧ kanjiV a b < 2 ^ 13 ∧ (if kanjiV a b < 5952 then 129 + kanjiV a b / 192 else 193 + kanjiV a b / 192) = a ∧ 64 + kanjiV a b % 192 = b := by
  simp only [pairK, Bool.or_eq_true, Bool.and_eq_true, decide_eq_true_eq] at h
  simp only [kanjiV]
  split <;> split <;> omega
theorem hanzi_back {a b : Int} (hb : 161 ≤ b ∧ b ≤ 252) (h : pairH a b = true) : 0 ≤ hanziV a b ∧ hanziV a b < 2 ^ 13 ∧ (if hanziV a b < 960 then 161 + hanziV a b / 96 else 166 + hanziV a b / 96) = a ∧ 161 + hanziV a b % 96 = b := by
  simp only [pairH, Bool.or_eq_true, Bool.and_eq_true, decide_eq_true_eq] at h
  simp only [hanziV]
  split <;> split <;> omega
end
section
/-- a piece of a list, at its place -/
def At (bits : List Int) (a : Nat) (x : List Int) : Prop := ∃ pre post, bits = pre ++ (x ++ post) ∧ pre.length = a
theorem At.left {bits x y : List Int} {a : Nat} (h : At bits a (x ++ y)) : At bits a x := by
  obtain ⟨pre, post, e, l⟩ := h
  exact ⟨pre, y ++ post, by rw [e, List.append_assoc], l⟩
theorem At.right {bits x y : List Int} {a : Nat} (h : At bits a (x ++ y)) : At bits (a + x.length) y := by
  obtain ⟨pre, post, e, l⟩ := h
  exact ⟨pre ++ x, post, by rw [e]; simp only [List.append_assoc], by rw [List.length_append, l]⟩
theorem At.take {bits x : List Int} {a : Nat} (h : At bits a x) : (bits.drop a).take x.length = x := by
  obtain ⟨pre, post, e, l⟩ := h
  rw [e, ← l, List.drop_left, List.take_left]
theorem At.le {bits x : List Int} {a : Nat} (h : At bits a x) : a + x.length ≤ bits.length := by
  obtain ⟨pre, post, e, l⟩ := h
  rw [e, ← l, List.length_append, List.length_append]; omega
theorem At.flat {bits : List Int} {f : Nat → List Int} {k n : Nat} (hk : ∀ i, (f i).length = k) : ∀ {a : Nat}, At bits a ((List.range n).flatMap f) → ∀ j, j < n → At bits (a + j * k) (f j) := by
  induction n with
  | zero => intro a h j hj; omega
  | succ n ih =>
    intro a h j hj
    rw [List.range_succ, List.flatMap_append] at h
    rcases Nat.lt_or_ge j n with h1 | h1
    · exact ih h.left j h1
    · have e : j = n := by omega
      subst e
      have h2 := h.right
      have hl : ((List.range j).flatMap f).length = j * k := by
        clear h h2 ih hj h1
        induction j with
        | zero => simp
        | succ j ih => rw [List.range_succ, List.flatMap_append, List.length_append, ih, Nat.add_mul]; simp [hk]
      rw [hl] at h2
      simpa using h2
/-- a segment as it is written -/
structure Rd where
  m : Int
  cnt : Nat
  V : Nat → Int
def lng (m : Int) : Nat := if m = 4 then 8 else 13
def encR (vr : Int) (s : Rd) : List Int := bitsOf s.m 4 ++ ((if s.m = 13 then bitsOf 1 4 else []) ++ (bitsOf s.cnt (wid s.m vr) ++ (List.range s.cnt).flatMap fun j => bitsOf (s.V j) (lng s.m)))
def outR (m v : Int) : List Int := if m = 4 then [v] else if m = 8 then [if v < 5952 then 129 + v / 192 else 193 + v / 192, 64 + v % 192] else [if v < 960 then 161 + v / 96 else 166 + v / 96, 161 + v % 96]
def octR (s : Rd) (i : Nat) : List Int := (List.range i).flatMap fun j => outR s.m (s.V j)
def runR (s : Rd) : RunD := (s.m, octR s s.cnt)
def RdOk (s : Rd) : Prop := (s.m = 4 ∨ s.m = 8 ∨ s.m = 13) ∧ s.cnt ≤ 99 ∧ ∀ j, j < s.cnt → 0 ≤ s.V j ∧ s.V j < 2 ^ lng s.m
theorem octR_succ (s : Rd) (i : Nat) : octR s (i + 1) = octR s i ++ outR s.m (s.V i) := by simp [octR, List.range_succ]
theorem octR_len (s : Rd) : ∀ i, (octR s i).length ≤ 2 * i
  | 0 => by simp [octR]
  | i + 1 => by
    have := octR_len s i
    rw [octR_succ, List.length_append]
    have h2 : (outR s.m (s.V i)).length ≤ 2 := by unfold outR; (repeat' split) <;> simp
    omega
theorem wid_big (m vr : Int) : 8 ≤ wid m vr := by unfold wid; (repeat' split) <;> decide
theorem head_num {bits : List Int} {a : Nat} {v : Int} {k : Nat} (h : At bits a (bitsOf v k)) (h0 : 0 ≤ v) (h1 : v < 2 ^ k) : numOf ((bits.drop a).take k) = v := by
  have := h.take
  rw [bitsOf_len] at this
  rw [this, num_bits h0 h1]
/-- what the reader finds at a segment's place -/
structure Found (bits : List Int) (vr : Int) (s : Rd) (a : Nat) (a1 a2 a3 : Nat) : Prop where
  kind : numOf ((bits.drop a).take 4) = s.m
  le0 : a + 4 ≤ bits.length
  three : s.m = 13 → (bits.drop (a + 4)).take 4 = [0, 0, 0, 1]
  h1 : a1 = a + 4 + (if s.m = 13 then 4 else 0)
  left : numOf ((bits.drop a1).take (wid s.m vr)) = s.cnt
  h2 : a2 = a1 + wid s.m vr
  item : ∀ j, j < s.cnt → numOf ((bits.drop (a2 + j * lng s.m)).take (lng s.m)) = s.V j
  h3 : a3 = a2 + s.cnt * lng s.m
  le : a3 ≤ bits.length
theorem enc_len (vr : Int) (s : Rd) : (encR vr s).length = 4 + ((if s.m = 13 then 4 else 0) + (wid s.m vr + s.cnt * lng s.m)) := by
  unfold encR
  rw [List.length_append, List.length_append, List.length_append, bitsOf_len, bitsOf_len, bits_len, Nat.mul_comm (lng s.m)]
  congr 2
  split
  · exact bitsOf_len _ _
  · rfl
theorem found {bits : List Int} {vr : Int} {s : Rd} {a : Nat} (hs : RdOk s) (h : At bits a (encR vr s)) :
    Found bits vr s a (a + 4 + (if s.m = 13 then 4 else 0)) (a + 4 + (if s.m = 13 then 4 else 0) + wid s.m vr) (a + (encR vr s).length) := by
  obtain ⟨hm, hc, hV⟩ := hs
  have hle := h.le
  have he := enc_len vr s
  unfold encR at h
  have p1 := h.left
  have r1 := h.right
  have p2 := r1.left
  have r2 := r1.right
  have p3 := r2.left
  have r3 := r2.right
  rw [bitsOf_len] at r1 p2 r2 p3 r3
  have l2 : (if s.m = 13 then bitsOf 1 4 else []).length = if s.m = 13 then 4 else 0 := by
    split
    · exact bitsOf_len _ _
    · rfl
  rw [l2] at p3 r3
  rw [bitsOf_len] at r3
  refine ⟨head_num p1 (by omega) (by rcases hm with e | e | e <;> rw [e] <;> decide), by omega, fun e => ?_, rfl, head_num p3 (by omega) ?_, rfl, fun j hj => ?_, by rw [he]; omega, by omega⟩
  · rw [if_pos e] at p2
    exact p2.take
  · have h8 := wid_big s.m vr
    have h9 : (2 : Nat) ^ 8 ≤ 2 ^ wid s.m vr := Nat.pow_le_pow_right (by decide) h8
    have e9 : ((2 ^ wid s.m vr : Nat) : Int) = (2 : Int) ^ wid s.m vr := by push_cast; rfl
    rw [← e9]
    have e8 : (2 : Nat) ^ 8 = 256 := by decide
    omega
  · exact head_num (At.flat (fun i => bitsOf_len _ _) r3 j hj) (hV j hj).1 (hV j hj).2
end
section
variable {w : World} {mg mb : Str → Option Value} {bm : Addr} {ob : Obj}
def NumQ (name : Str) (v : Int) (g : Heap) (L : Addr) (d : Drawn) (os : OsState) (m₀ : Str → Option Value) (news : Led) (f : Flow) (s' : Shared) : Prop :=
  f = .next ∧ ∃ h t tk gn, s' = ⟨h, gn, d, tk, os⟩ ∧ AllBare gn ∧ Fr g L h (fun y => if y = name then some (.int v t) else m₀ y) ∧ News g L h news
theorem num_mk {name : Str} {g h : Heap} {L : Addr} {d : Drawn} {os : OsState} {gn : Array GenState} {e c : Int} {m₀ : Str → Option Value} {news news' : Led} {t : Tok} {tk : Nat} (F : Fr g L h (fun y => if y = name then some (.int e t) else m₀ y)) (N : News g L h news') (hG : AllBare gn)
    (hn : ∀ q ∈ news, q ∈ news') (he : e = c) : NumQ name c g L d os m₀ news .next ⟨h, gn, d, tk, os⟩ := ⟨rfl, h, t, tk, gn, rfl, hG, he ▸ F, news_sub N hn⟩
theorem step_num {A : Around} {env : Env} {st : Stmt} {rest : List Stmt} {Q : Flow → Shared → Prop} {E : Value → Shared → Prop} {g h3 : Heap} {L : Addr} {d : Drawn} {os : OsState} {gn : Array GenState} (name : Str) (c : Int) {m₀ : Str → Option Value} {news : Led} {tk3 : Nat} {M : Model} (_ : Fr g L h3 m₀) (_ : News g L h3 news)
    (h1 : wpAny M A (exec st env) (NumQ name c g L d os m₀ news) (fun _ _ => False) ⟨h3, gn, d, tk3, os⟩)
    (h2 : ∀ h t tk gn, AllBare gn → Fr g L h (fun y => if y = name then some (.int c t) else m₀ y) → News g L h news → wpR M A (execs rest env) Q E ⟨h, gn, d, tk, os⟩) : wpR M A (execs (st :: rest) env) Q E ⟨h3, gn, d, tk3, os⟩ :=
  wpR_execs_cons (wpR_mono (wpR_of h1) (fun f s' ⟨hf, h, t, tk, gn, hs, hG, F, N⟩ => by subst hf; subst hs; exact h2 h t tk gn hG F N) (fun _ _ z => z.elim))
theorem lnum_hs {l : Addr} {vs : List Value} {ns : List Int} {c : Nat} : ∀ (v : Value) (nw : Led), (∃ t, v = .int (numOf ns) t ∧ (l, listOf vs.toArray c) ∈ nw) → ∀ q ∈ [(l, listOf vs.toArray c)], q ∈ nw := fun _ _ hp q hq => by
  obtain ⟨t, _, h⟩ := hp
  rw [List.mem_singleton.mp hq]; exact h
theorem num_at {bits : List Int} {x : Int} {n k k' : Nat} {v : Int} (h : numOf ((bits.drop n).take k) = v) (hx : x.toNat = n) (hk : k' = k) : numOf ((bits.drop x.toNat).take k') = v := by subst hx; subst hk; exact h
abbrev liX (b : List Value) (c : Nat) : Obj := listOf b.toArray c
/-- the reader's names: at the place a, the others as they are -/
abbrev mW (B R : Addr) (row : Int) (tr : Tok) (a : Nat) (ta : Tok) (u : Str → Option Value) : Str → Option Value := fun y =>
  if y = Str.ofString "at" then some (.int (a : Nat) ta) else if y = Str.ofString "runs" then some (.ref R) else if y = Str.ofString "row" then some (.int row tr) else if y = Str.ofString "bits" then some (.ref B) else u y
/-- finished runs, as they stand in the ledger -/
inductive RunsIn (news : Led) : List Value → List RunD → Prop
  | nil : RunsIn news [] []
  | cons {a o : Addr} {t : Tok} {ws vs : List Value} {c c' : Nat} {r : RunD} {rs : List RunD} : (a, listOf #[.int r.1 t, .ref o] c) ∈ news → (o, listOf ws.toArray c') ∈ news → IntsAre ws r.2 → RunsIn news vs rs → RunsIn news (.ref a :: vs) (r :: rs)
theorem RunsIn.sub {news news' : Led} {vs : List Value} {rs : List RunD} (h : RunsIn news vs rs) (k : ∀ q ∈ news, q ∈ news') : RunsIn news' vs rs := by
  induction h with
  | nil => exact .nil
  | cons a b c _ ih => exact .cons (k _ a) (k _ b) c ih
theorem RunsIn.snoc {news : Led} {vs : List Value} {rs : List RunD} {a o : Addr} {t : Tok} {ws : List Value} {c c' : Nat} {r : RunD} (h : RunsIn news vs rs) (h1 : (a, listOf #[.int r.1 t, .ref o] c) ∈ news) (h2 : (o, listOf ws.toArray c') ∈ news) (h3 : IntsAre ws r.2) : RunsIn news (vs ++ [.ref a]) (rs ++ [r]) := by
  induction h with
  | nil => exact .cons h1 h2 h3 .nil
  | cons a b c _ ih => exact .cons a b c ih
theorem RunsIn.len {news : Led} {vs : List Value} {rs : List RunD} (h : RunsIn news vs rs) : vs.length = rs.length := by
  induction h with
  | nil => rfl
  | cons a b c _ ih => simp [ih]
theorem RunsIn.at {g h : Heap} {L : Addr} {news : Led} {vs : List Value} {rs : List RunD} (N : News g L h news) (x : RunsIn news vs rs) : RunsAt h vs rs := by
  induction x with
  | nil => exact .nil
  | cons a b c _ ih => exact .cons ⟨_, _, _, _, rfl, ⟨_, (N _ a).1, rfl, _, rfl⟩, ⟨_, (N _ b).1, rfl, _, rfl⟩, c⟩ ih
theorem fr_of {g h : Heap} {L : Addr} {m m' : Str → Option Value} (F : Fr g L h m) (e : m = m') : Fr g L h m' := e ▸ F
theorem mW_of {B R : Addr} {row : Int} {tr ta : Tok} {a : Nat} {m : Str → Option Value} (h1 : m (Str.ofString "at") = some (.int (a : Nat) ta)) (h2 : m (Str.ofString "runs") = some (.ref R)) (h3 : m (Str.ofString "row") = some (.int row tr)) (h4 : m (Str.ofString "bits") = some (.ref B)) : m = mW B R row tr a ta m := by
  funext y
  simp only [mW]
  split
  · next e => rw [e, h1]
  · split
    · next e => rw [e, h2]
    · split
      · next e => rw [e, h3]
      · split
        · next e => rw [e, h4]
        · rfl
/-- in the loop over a segment's items -/
abbrev mI (B R O : Addr) (row kd : Int) (tr tk : Tok) (a : Nat) (ta : Tok) (u : Str → Option Value) : Str → Option Value := fun y =>
  if y = Str.ofString "octets" then some (.ref O) else if y = Str.ofString "kind" then some (.int kd tk) else mW B R row tr a ta u y
theorem mI_of {B R O : Addr} {row kd : Int} {tr ta tk : Tok} {a : Nat} {m : Str → Option Value} (h1 : m (Str.ofString "at") = some (.int (a : Nat) ta)) (h2 : m (Str.ofString "runs") = some (.ref R)) (h3 : m (Str.ofString "row") = some (.int row tr)) (h4 : m (Str.ofString "bits") = some (.ref B)) (h5 : m (Str.ofString "octets") = some (.ref O)) (h6 : m (Str.ofString "kind") = some (.int kd tk)) : m = mI B R O row kd tr tk a ta m := by
  funext y
  simp only [mI]
  split
  · next e => rw [e, h5]
  · split
    · next e => rw [e, h6]
    · exact congrFun (mW_of h1 h2 h3 h4) y
theorem mI_x {B R O : Addr} {row kd x : Int} {tr ta tk : Tok} {a : Nat} {m : Str → Option Value} (h1 : m (Str.ofString "at") = some (.int x ta)) (hx : x = (a : Nat)) (h2 : m (Str.ofString "runs") = some (.ref R)) (h3 : m (Str.ofString "row") = some (.int row tr)) (h4 : m (Str.ofString "bits") = some (.ref B)) (h5 : m (Str.ofString "octets") = some (.ref O)) (h6 : m (Str.ofString "kind") = some (.int kd tk)) : m = mI B R O row kd tr tk a ta m := by
  subst hx; exact mI_of h1 h2 h3 h4 h5 h6
/-- a turn over a segment's items, at its end -/
def ItemQ (B R O I : Addr) (row kd : Int) (tr tk : Tok) (rvs vs : List Value) (rc c : Nat) (rest : Led) (s : Rd) (a2 : Nat) (ob : Obj) (j : Nat) (g : Heap) (L : Addr) (d : Drawn) (os : OsState) (f : Flow) (s' : Shared) : Prop :=
  f = .next ∧ ∃ u ta ws c', Fr g L s'.heap (mI B R O row kd tr tk (a2 + j * lng s.m) ta u) ∧ IntsAre ws (octR s j) ∧ News g L s'.heap ((I, ob) :: (O, listOf (List.toArray ws) c') :: (R, listOf rvs.toArray rc) :: (B, listOf vs.toArray c) :: rest) ∧ AllBare s'.gens ∧ s'.drawn = d ∧ s'.os = os
theorem item_mk {B R O I : Addr} {row kd : Int} {tr tk ta : Tok} {rvs vs ws : List Value} {rc c c' : Nat} {rest : Led} {s : Rd} {a2 : Nat} {ob : Obj} {j : Nat} {g h : Heap} {L : Addr} {d : Drawn} {os : OsState} {tk' : Nat} {gn : Array GenState} {m : Str → Option Value} {news : Led} (F : Fr g L h m) (N : News g L h news)
    (hm : m = mI B R O row kd tr tk (a2 + j * lng s.m) ta m) (hw : IntsAre ws (octR s j)) (hn : ∀ q ∈ (I, ob) :: (O, listOf (List.toArray ws) c') :: (R, listOf rvs.toArray rc) :: (B, listOf vs.toArray c) :: rest, q ∈ news) (hG : AllBare gn) :
    ItemQ B R O I row kd tr tk rvs vs rc c rest s a2 ob j g L d os .next ⟨h, gn, d, tk', os⟩ := ⟨rfl, m, ta, ws, c', hm ▸ F, hw, news_sub N hn, hG, rfl, rfl⟩
theorem item_mk4 {B R O I : Addr} {row kd : Int} {tr tk ta tv : Tok} {rvs vs ws : List Value} {rc c c' : Nat} {rest : Led} {s : Rd} {a2 : Nat} {ob : Obj} {j : Nat} {g h : Heap} {L : Addr} {d : Drawn} {os : OsState} {tk' : Nat} {gn : Array GenState} {m : Str → Option Value} {v : Int} (F : Fr g L h m)
    (N : News g L h ((I, ob) :: (O, listOf (ws.toArray.push (.int v tv)) c') :: (R, listOf rvs.toArray rc) :: (B, listOf vs.toArray c) :: rest))
    (hm : m = mI B R O row kd tr tk (a2 + (j + 1) * lng s.m) ta m) (hw : IntsAre ws (octR s j)) (ho : outR s.m (s.V j) = [v]) (hG : AllBare gn) :
    ItemQ B R O I row kd tr tk rvs vs rc c rest s a2 ob (j + 1) g L d os .next ⟨h, gn, d, tk', os⟩ :=
  item_mk F N hm (ws := ws ++ [Value.int v tv]) (c' := c') (by rw [octR_succ, ho]; exact hw.append (.cons _ _ .nil)) (by rw [List.push_toArray]; exact fun q hq => hq) hG
theorem item_mk8 {B R O I x : Addr} {row kd : Int} {tr tk ta tv tw : Tok} {rvs vs ws : List Value} {rc c c' : Nat} {rest : Led} {s : Rd} {a2 : Nat} {ob ox : Obj} {j : Nat} {g h : Heap} {L : Addr} {d : Drawn} {os : OsState} {tk' : Nat} {gn : Array GenState} {m : Str → Option Value} {v v' : Int} (F : Fr g L h m)
    (N : News g L h ((x, ox) :: (I, ob) :: (O, listOf (ws ++ [Value.int v tv, Value.int v' tw]).toArray c') :: (R, listOf rvs.toArray rc) :: (B, listOf vs.toArray c) :: rest))
    (hm : m = mI B R O row kd tr tk (a2 + (j + 1) * lng s.m) ta m) (hw : IntsAre ws (octR s j)) (ho : outR s.m (s.V j) = [v, v']) (hG : AllBare gn) :
    ItemQ B R O I row kd tr tk rvs vs rc c rest s a2 ob (j + 1) g L d os .next ⟨h, gn, d, tk', os⟩ :=
  item_mk F (news_tl N) hm (ws := ws ++ [Value.int v tv, Value.int v' tw]) (c' := c') (by rw [octR_succ, ho]; exact hw.append (.cons _ _ (.cons _ _ .nil))) (fun q hq => hq) hG
theorem forItems {prog : Program} {w : World} {A : Around} {s : Shared} {g : Heap} {cn : Str} {cs : Scope} {L a : Addr} {ccd : Value} {cl : List (Str × Addr)} {px : Pos} {body : List Stmt} {R' : Result → Shared → Prop} {x : Str} (hh : A.handled = none) (hx : (envX cn cs L a ccd cl).kindOf x = some .local) (hp : ((envX cn cs L a ccd cl).scope.kind == .class || ((envX cn cs L a ccd cl).scope.kind == .module && (envX cn cs L a ccd cl).locals != (envX cn cs L a ccd cl).globals)) = false)
    {B R O I : Addr} {row kd : Int} {tr tk ta : Tok} {rvs vs : List Value} {rc c co : Nat} {rest news : Led} {sg : Rd} {a2 : Nat} {m : Str → Option Value} (F : Fr g L s.heap m) (hm : m = mI B R O row kd tr tk a2 ta m) (N : News g L s.heap ((I, riObj 0 sg.cnt 1) :: news)) (hap : ∀ q ∈ news, q.1 ≠ I)
    (hn : ∀ q ∈ (O, listOf #[] co) :: (R, listOf rvs.toArray rc) :: (B, listOf vs.toArray c) :: rest, q ∈ news) (hG : AllBare s.gens)
    (turn : ∀ (j : Nat) (t' ta : Tok) (u : Str → Option Value) (ws : List Value) (c' : Nat) (h : Heap) (tk' : Nat) (gn : Array GenState), j < sg.cnt → IntsAre ws (octR sg j) → Fr g L h (fun y => if y = x then some (.int (j : Nat) t') else mI B R O row kd tr tk (a2 + j * lng sg.m) ta u y) →
      News g L h ((I, riObj ((j + 1 : Nat) : Int) ((sg.cnt : Int) - ((j + 1 : Nat) : Int)) 1) :: (O, listOf ws.toArray c') :: (R, listOf rvs.toArray rc) :: (B, listOf vs.toArray c) :: rest) → (∀ q ∈ rest, q.1 ≠ I) → @Ne Nat O I → AllBare gn →
      wpR (model prog w) A (execs body (envX cn cs L a ccd cl)) (ItemQ B R O I row kd tr tk rvs vs rc c rest sg a2 (riObj ((j + 1 : Nat) : Int) ((sg.cnt : Int) - ((j + 1 : Nat) : Int)) 1) (j + 1) g L s.drawn s.os) (fun _ _ => False) ⟨h, gn, s.drawn, tk', s.os⟩)
    (done : ∀ u ta ws c' h' tk' gn, Fr g L h' (mI B R O row kd tr tk (a2 + sg.cnt * lng sg.m) ta u) → IntsAre ws (octR sg sg.cnt) → News g L h' ((O, listOf (List.toArray ws) c') :: (R, listOf rvs.toArray rc) :: (B, listOf vs.toArray c) :: rest) → AllBare gn → R' (.ok .next) ⟨h', gn, s.drawn, tk', s.os⟩) :
    codeR (model prog w) A (.forLoop (.Name x px) (.ref I) body [] (envX cn cs L a ccd cl)) R' s := by
  have e0 : ∀ j : Nat, riObj (0 + ((j : Nat) : Int) * 1) ((sg.cnt : Int) - ((j : Nat) : Int)) 1 = riObj ((j : Nat) : Int) ((sg.cnt : Int) - ((j : Nat) : Int)) 1 := fun j => by rw [Int.mul_one, Int.zero_add]
  have hap' : ∀ q ∈ (O, listOf #[] co) :: (R, listOf rvs.toArray rc) :: (B, listOf vs.toArray c) :: rest, q.1 ≠ I := fun q hq => hap q (hn q hq)
  have hOI : @Ne Nat O I := hap' _ (.head _)
  have hRI : @Ne Nat R I := hap' _ (.tail _ (.head _))
  have hBI : @Ne Nat B I := hap' _ (.tail _ (.tail _ (.head _)))
  have hrI : ∀ q ∈ rest, q.1 ≠ I := fun q hq => hap' q (.tail _ (.tail _ (.tail _ hq)))
  have hall : ∀ (ws : List Value) (c' : Nat), ∀ q ∈ (O, listOf ws.toArray c') :: (R, listOf rvs.toArray rc) :: (B, listOf vs.toArray c) :: rest, q.1 ≠ I := fun ws c' q hq => by
    rcases List.mem_cons.mp hq with rfl | hq
    · exact hOI
    · exact hap' q (.tail _ hq)
  refine forR (n := sg.cnt) (ob := fun i => riObj (0 + (i : Nat) * 1) ((sg.cnt : Int) - (i : Nat)) 1) (m := m) (news := (O, listOf #[] co) :: (R, listOf rvs.toArray rc) :: (B, listOf vs.toArray c) :: rest) (Steps.range hh _ 0 1 sg.cnt) trivial hx hp
      (fun j m₁ nw => ∃ u ta ws c', m₁ = mI B R O row kd tr tk (a2 + j * lng sg.m) ta u ∧ IntsAre ws (octR sg j) ∧ nw = (O, listOf (List.toArray ws) c') :: (R, listOf rvs.toArray rc) :: (B, listOf vs.toArray c) :: rest)
      (fun _ _ _ _ _ _ => trivial) F ?_ hap' hG ⟨m, ta, [], co, by rw [Nat.zero_mul]; exact hm, .nil, rfl⟩ ?_ ?_
  · refine news_sub N fun q hq => ?_
    rcases List.mem_cons.mp hq with rfl | hq
    · exact .head _
    · exact .tail _ (hn q hq)
  · rintro j v m₁ news₁ h3 tk3 gn3 hj ⟨t', rfl⟩ ⟨u, ta', ws, c', rfl, hw, rfl⟩ hap3 F3 N3 hG3
    rw [e0] at N3
    rw [Int.mul_one, Int.zero_add] at F3
    refine wpR_mono (turn j t' ta' u ws c' h3 tk3 gn3 hj hw F3 N3 hrI hOI hG3) (fun f s₃ hf => ?_) (fun _ _ z => z.elim)
    obtain ⟨rfl, u2, ta2, ws2, c2, F4, hw2, N4, hG4, hd4, ho4⟩ := hf
    exact ⟨_, _, ⟨u2, ta2, ws2, c2, rfl, hw2, rfl⟩, hall ws2 c2, F4, by rw [e0]; exact N4, hG4, hd4, ho4⟩
  · rintro m' news' h4 tk4 gn4 ⟨u, ta', ws, c', rfl, hw, rfl⟩ F4 N4 hG4
    exact done u ta' ws c' h4 tk4 gn4 F4 hw N4 hG4
def ReadQ (B R : Addr) (row : Int) (tr : Tok) (vs : List Value) (c : Nat) (rest : Led) (runs : List RunD) (s : Rd) (a3 : Nat) (g : Heap) (L : Addr) (d : Drawn) (os : OsState) (f : Flow) (s' : Shared) : Prop :=
  f = .next ∧ ∃ u ta rvs' rc' new, Fr g L s'.heap (mW B R row tr a3 ta u) ∧ News g L s'.heap ((R, listOf (List.toArray rvs') rc') :: (B, listOf vs.toArray c) :: (new ++ rest)) ∧ (∀ q ∈ new, q.1 ≠ R) ∧ RunsIn (new ++ rest) rvs' (runs ++ [runR s]) ∧ AllBare s'.gens ∧ s'.drawn = d ∧ s'.os = os
theorem read_mk {B R a o : Addr} {row : Int} {tr ta t : Tok} {vs rvs ws : List Value} {c rc c1 c2 : Nat} {rest : Led} {runs : List RunD} {s : Rd} {a3 : Nat} {g h : Heap} {L : Addr} {d : Drawn} {os : OsState} {tk : Nat} {gn : Array GenState} {m : Str → Option Value} {news : Led} (F : Fr g L h m) (N : News g L h news)
    (hn : ∀ q ∈ (R, listOf (rvs.toArray.push (.ref a)) rc) :: (B, listOf vs.toArray c) :: (a, listOf #[.int s.m t, .ref o] c1) :: (o, listOf ws.toArray c2) :: rest, q ∈ news) (hm : m = mW B R row tr a3 ta m) (h1 : @Ne Nat a R) (h2 : @Ne Nat o R) (hr : RunsIn rest rvs runs) (hw : IntsAre ws (octR s s.cnt)) (hG : AllBare gn) :
    ReadQ B R row tr vs c rest runs s a3 g L d os .next ⟨h, gn, d, tk, os⟩ := by
  refine ⟨rfl, m, ta, rvs ++ [.ref a], rc, [(a, listOf #[.int s.m t, .ref o] c1), (o, listOf ws.toArray c2)], hm ▸ F, ?_, ?_, ?_, hG, rfl, rfl⟩
  · rw [List.push_toArray] at hn
    exact news_sub N hn
  · intro q hq
    simp only [List.mem_cons, List.not_mem_nil, or_false] at hq
    rcases hq with rfl | rfl
    · exact h1
    · exact h2
  · exact (hr.sub fun q hq => List.mem_append_right _ hq).snoc (.head _) (.tail _ (.head _)) hw
theorem size1 (n : Nat) : Builtin.Range.rangeSize 0 n 1 = (n : Int) := by
  unfold Builtin.Range.rangeSize
  simp
  (try omega)
theorem small1 (n : Nat) (h : n ≤ 99) : Builtin.Range.small 0 n 1 = true := by
  have : ∀ m : Fin 100, Builtin.Range.small 0 ((m.val : Nat) : Int) 1 = true := by decide +kernel
  exact this ⟨n, by omega⟩
theorem mW_x {B R : Addr} {row x : Int} {tr ta : Tok} {a : Nat} {m : Str → Option Value} (h1 : m (Str.ofString "at") = some (.int x ta)) (hx : x = (a : Nat)) (h2 : m (Str.ofString "runs") = some (.ref R)) (h3 : m (Str.ofString "row") = some (.int row tr)) (h4 : m (Str.ofString "bits") = some (.ref B)) : m = mW B R row tr a ta m := by
  subst hx; exact mW_of h1 h2 h3 h4
theorem read_mk1 {B R a o : Addr} {row kd : Int} {tr ta t : Tok} {vs rvs ws : List Value} {c rc c1 c2 : Nat} {rest : Led} {runs : List RunD} {s : Rd} {a3 : Nat} {g h : Heap} {L : Addr} {d : Drawn} {os : OsState} {tk : Nat} {gn : Array GenState} {m : Str → Option Value} (F : Fr g L h m)
    (N : News g L h ((a, listOf #[.int kd t, .ref o] c1) :: (o, listOf ws.toArray c2) :: (R, listOf (rvs.toArray.push (.ref a)) rc) :: (B, listOf vs.toArray c) :: rest))
    (hk : kd = s.m) (hm : m = mW B R row tr a3 ta m) (h1 : @Ne Nat R a) (h2 : @Ne Nat R o) (hr : RunsIn rest rvs runs) (hw : IntsAre ws (octR s s.cnt)) (hG : AllBare gn) :
    ReadQ B R row tr vs c rest runs s a3 g L d os .next ⟨h, gn, d, tk, os⟩ := by
  subst hk
  refine read_mk (a := a) (o := o) (t := t) (rc := rc) (c1 := c1) (c2 := c2) F N (fun q hq => ?_) hm (fun e => h1 e.symm) (fun e => h2 e.symm) hr hw hG
  rcases List.mem_cons.mp hq with rfl | hq
  · exact .tail _ (.tail _ (.head _))
  · rcases List.mem_cons.mp hq with rfl | hq
    · exact .tail _ (.tail _ (.tail _ (.head _)))
    · rcases List.mem_cons.mp hq with rfl | hq
      · exact .head _
      · rcases List.mem_cons.mp hq with rfl | hq
        · exact .tail _ (.head _)
        · exact .tail _ (.tail _ (.tail _ (.tail _ hq)))
theorem my_run {vs : List Value} {ns : List Int} {x y : Int} (k : Nat) (hi' : IntsAre vs ns) (hx : 0 ≤ x) (hy : y = x + (k : Nat)) (hle : x.toNat + k ≤ ns.length) : IntsAre (slicePick vs.toArray (some x) (some y) none).toList ((ns.drop x.toNat).take k) := by
  have h := kmk_run (x := x) (y := y) hi' (by omega) (by omega)
  have e2 : min y.toNat ns.length - x.toNat = k := by omega
  rw [e2] at h
  exact h
theorem fmN (a : Int) (n : Int) (h : 0 ≤ n) : a.fmod n = a % n := Int.fmod_eq_emod_of_nonneg a h
theorem fdN (a : Int) (n : Int) (h : 0 ≤ n) : a.fdiv n = a / n := Int.fdiv_eq_ediv_of_nonneg a h
end
end
section
local macro_rules | `(tactic| walk_at "my_cls") => `(tactic| (first | exact ref_ne_type | exact Ne.symm ref_ne_type | (intro h; cases h; done) | (simp [dictOf]; done) | decide))
local macro_rules | `(tactic| walk_at "getAttr ref") => `(tactic| (k_here; (with_reducible show wpAny _ _ (getAttr (Value.ref _) (PySem.Str.ofString "bits") _) _ _ _); refine' get_seg_bits ?c ?f ?n ?h1 ?h2 ?g ?d ?u ?k ?v ?_; (case c => assumption); (case f => k_asm); (case n => k_asm); (case h1 => k_mem); (case h2 => k_mem); (case g => assumption); (case d => omega); (case u => omega); (case k => rfl); (case v => rfl); intro h' tk' g' F' N' G'))
local macro_rules | `(tactic| walk_at "getAttr ref") => `(tactic| (k_here; (with_reducible show wpAny _ _ (getAttr (Value.ref _) (PySem.Str.ofString "mode") _) _ _ _); refine' get_seg_mode ?c ?f ?n ?h1 ?h2 ?g ?d ?u ?k ?v ?_; (case c => assumption); (case f => k_asm); (case n => k_asm); (case h1 => k_mem); (case h2 => k_mem); (case g => assumption); (case d => omega); (case u => omega); (case k => rfl); (case v => rfl); intro h' tk' g' F' N' G'))
local macro_rules | `(tactic| walk_at "getAttr ref") => `(tactic| (k_here; (with_reducible show wpAny _ _ (getAttr (Value.ref _) (PySem.Str.ofString "char_count") _) _ _ _); refine' get_seg_count ?c ?f ?n ?h1 ?h2 ?g ?d ?u ?k ?v ?_; (case c => assumption); (case f => k_asm); (case n => k_asm); (case h1 => k_mem); (case h2 => k_mem); (case g => assumption); (case d => omega); (case u => omega); (case k => rfl); (case v => rfl); intro h' tk' g' F' N' G'))
local macro_rules | `(tactic| walk_at "subscriptTail") => `(tactic| (k_here; (with_reducible show wpAny _ _ (subscriptTail _ _ (Value.ref 24) (Value.int _ _)) _ _ _); refine' cc_outer ?x ?m ?_ ?s; (case x => k_in); (case m => assumption); (case s => with_unfolding_all rfl); intro _))
local macro_rules | `(tactic| walk_at "subscriptTail") => `(tactic| (k_here; (with_reducible show wpAny _ _ (subscriptTail _ _ (Value.ref (ccd _)) (Value.int _ _)) _ _ _); refine' cc_inner ?x ?m ?v ?_ ?s; (case x => k_in); (case m => assumption); (case v => assumption); (case s => (intros; with_unfolding_all rfl)); intro _ _))
section
variable {w : World} {mg mb : Str → Option Value} {bm : Addr} {ob : Obj}
theorem ws_spec (b dx d sx sdx dd : Addr) (bs sbits : List Int) (c m vr : Int) (hm : m = 4 ∨ m = 8) (hvr : vr = 1 ∨ vr = 2 ∨ vr = 3) (tc tm tv : Tok) (e : Value) (ps : Array Value) (hps : TriplesOk ps.toList) (hbl : bs.length + sbits.length ≤ 100000) (hdd : @Ne Nat d dd) :
    SPR w mg mb bm ob 8 120 37 [.ref b, .ref sx, .none, .int vr tv] [] ([(b, bufObj dx d), (dx, dictOf [] 0), (d, baObj bs), (268, X.tableObj ps)] ++ segL sx sdx (.ref dd) (.int c tc) (.int m tm) e ++ [(dd, baObj sbits)])
      (fun r nw => r = .none ∧ ∃ ps', TriplesOk ps'.toList ∧ nw = [(b, bufObj dx d), (dx, dictOf [] 0), (d, baObj ((bs ++ bitsOf m 4) ++ bitsOf c (wid m vr) ++ sbits)), (268, X.tableObj ps'), (sx, segObj sdx [.ref dd, .int c tc, .int m tm, e]), (sdx, dictOf [] 0), (dd, baObj sbits)]) := by
  walk_at "my_startR"
  intro dp un gd L outer A₀ base g h₁ gn d' tk os C F N hsub hG hdp hu
  have X' := C.X
  have T' := C.T
  have B' := C.B
  have M' := C.M
  have hw := wid_le m vr
  have hm3 : m = 4 ∨ m = 8 ∨ m = 13 := by omega
  simp only [List.cons_append, List.nil_append] at N hsub
  refine wpR_execs_app (l₁ := [_, _]) (l₂ := _) ?_
  (try dsimp only)
  (try k_fold)
  k_steps
  refine wpR_execs_cons (wpR_If (wpR_of ?_))
  k_fold
  k_steps
  refine wpR_execs_cons (wpR_Expr (wpR_CallName ?_))
  k_fold
  k_steps
  refine wpR_callM (K := Mine02.hd.heap_39 w.params) (g := 273) (self := .ref b) (h₀ := g) (L := L) (news := []) (by k_is) ?_
  k_fold
  k_steps
  have F5 := ‹Fr g L _ _›
  have N5 := ‹News g L _ _›
  have G5 := ‹AllBare _›
  have M5 : News g L _ [(b, bufObj dx d), (dx, dictOf [] 0), (d, baObj (bs)), (268, X.tableObj ps), (_, methodObj (.ref 273) (.ref b)), (sx, segObj sdx [.ref dd, .int c tc, .int m tm, e]), (sdx, dictOf [] 0), (dd, baObj sbits)] := news_sub N5 (by walk_at "my_mems")
  refine Own.SpecR.useM (f := 273) (self := .ref b) (append_bits_spec b dx d (bs) m 4 _ _ ps (by decide) (by (try simp only [List.length_append, bitsOf_len]); omega) hps) (M5.get (by k_mem)) C F5 M5 rfl (by walk_at "my_mems") G5 (by omega) (by omega) fun v5 nw5 h5 tk5 g5 hP5 F5' N5' hap5 G5' => ?_
  obtain ⟨rfl, ps5, rfl, hps5⟩ := hP5
  have N5'' := ws_led (bs' := (bs) ++ bitsOf m 4) M5 (Ne.symm hdd) N5'
  clear F5 N5 G5 M5
  refine ⟨rfl, ?_⟩
  dsimp only
  refine wpR_execs_cons (wpR_If (wpR_of ?_))
  k_fold
  k_steps
  · exfalso; omega
  refine wpR_execs_nil ?_
  dsimp only
  refine wpR_execs_nil ?_
  dsimp only
  refine wpR_execs_cons (wpR_Expr (wpR_CallName ?_))
  k_fold
  k_steps
  refine wpR_callM (K := Mine02.hd.heap_39 w.params) (g := 273) (self := .ref b) (h₀ := g) (L := L) (news := []) (by k_is) ?_
  k_fold
  k_steps
  have F6 := ‹Fr g L _ _›
  have N6 := ‹News g L _ _›
  have G6 := ‹AllBare _›
  have M6 : News g L _ [(b, bufObj dx d), (dx, dictOf [] 0), (d, baObj (bs ++ bitsOf m 4)), (268, X.tableObj ps5), (_, methodObj (.ref 273) (.ref b)), (sx, segObj sdx [.ref dd, .int c tc, .int m tm, e]), (sdx, dictOf [] 0), (dd, baObj sbits)] := news_sub N6 (by walk_at "my_mems")
  refine Own.SpecR.useM (f := 273) (self := .ref b) (append_bits_spec b dx d (bs ++ bitsOf m 4) c (wid m vr) _ _ ps5 (by unfold wid; (repeat' split) <;> decide) (by (try simp only [List.length_append, bitsOf_len]); omega) hps5) (M6.get (by k_mem)) C F6 M6 rfl (by walk_at "my_mems") G6 (by omega) (by omega) fun v6 nw6 h6 tk6 g6 hP6 F6' N6' hap6 G6' => ?_
  obtain ⟨rfl, ps6, rfl, hps6⟩ := hP6
  have N6'' := ws_led (bs' := (bs ++ bitsOf m 4) ++ bitsOf c (wid m vr)) M6 (Ne.symm hdd) N6'
  clear F6 N6 G6 M6
  refine ⟨rfl, ?_⟩
  dsimp only
  refine wpR_execs_cons (wpR_Expr (wpR_MethodCall rfl rfl rfl ?_))
  k_fold
  k_steps
  dsimp only
  refine wpR_callK (K := Mine02.hd.heap_39 w.params) (by k_is) ?_
  k_fold
  k_steps
  (try dsimp only [List.cons_append, List.nil_append])
  have F9 := ‹Fr g L _ _›
  have N9 := ‹News g L _ _›
  have G9 := ‹AllBare _›
  refine Own.SpecR.use (bext_spec b dx d dd ((bs ++ bitsOf m 4) ++ bitsOf c (wid m vr)) sbits hdd (by simp only [List.length_append, bitsOf_len]; omega)) C F9 N9 rfl (by walk_at "my_mems") G9 (by omega) (by omega) fun v9 nw9 h9 tk9 g9 hP9 F9' N9' hap9 G9' => ?_
  obtain ⟨rfl, rfl⟩ := hP9
  have N10 := ws_led2 (bs' := ((bs ++ bitsOf m 4) ++ bitsOf c (wid m vr)) ++ sbits) N9 N9'
  refine ⟨rfl, wpR_execs_nil ?_⟩
  dsimp only [retOf]
  exact ⟨_, _, _, F9', N10, ⟨rfl, ps6, hps6, rfl⟩, G9', rfl, rfl⟩
theorem ws13_spec (b dx d sx sdx dd : Addr) (bs sbits : List Int) (c m vr : Int) (hm : m = 13) (hvr : vr = 1 ∨ vr = 2 ∨ vr = 3) (tc tm tv : Tok) (e : Value) (ps : Array Value) (hps : TriplesOk ps.toList) (hbl : bs.length + sbits.length ≤ 100000) (hdd : @Ne Nat d dd) :
    SPR w mg mb bm ob 8 120 37 [.ref b, .ref sx, .none, .int vr tv] [] ([(b, bufObj dx d), (dx, dictOf [] 0), (d, baObj bs), (268, X.tableObj ps)] ++ segL sx sdx (.ref dd) (.int c tc) (.int m tm) e ++ [(dd, baObj sbits)])
      (fun r nw => r = .none ∧ ∃ ps', TriplesOk ps'.toList ∧ nw = [(b, bufObj dx d), (dx, dictOf [] 0), (d, baObj (((bs ++ bitsOf m 4) ++ bitsOf 1 4) ++ bitsOf c (wid m vr) ++ sbits)), (268, X.tableObj ps'), (sx, segObj sdx [.ref dd, .int c tc, .int m tm, e]), (sdx, dictOf [] 0), (dd, baObj sbits)]) := by
  walk_at "my_startR"
  intro dp un gd L outer A₀ base g h₁ gn d' tk os C F N hsub hG hdp hu
  have X' := C.X
  have T' := C.T
  have B' := C.B
  have M' := C.M
  have hw := wid_le m vr
  have hm3 : m = 4 ∨ m = 8 ∨ m = 13 := by omega
  simp only [List.cons_append, List.nil_append] at N hsub
  refine wpR_execs_app (l₁ := [_, _]) (l₂ := _) ?_
  (try dsimp only)
  (try k_fold)
  k_steps
  refine wpR_execs_cons (wpR_If (wpR_of ?_))
  k_fold
  k_steps
  refine wpR_execs_cons (wpR_Expr (wpR_CallName ?_))
  k_fold
  k_steps
  refine wpR_callM (K := Mine02.hd.heap_39 w.params) (g := 273) (self := .ref b) (h₀ := g) (L := L) (news := []) (by k_is) ?_
  k_fold
  k_steps
  have F5 := ‹Fr g L _ _›
  have N5 := ‹News g L _ _›
  have G5 := ‹AllBare _›
  have M5 : News g L _ [(b, bufObj dx d), (dx, dictOf [] 0), (d, baObj (bs)), (268, X.tableObj ps), (_, methodObj (.ref 273) (.ref b)), (sx, segObj sdx [.ref dd, .int c tc, .int m tm, e]), (sdx, dictOf [] 0), (dd, baObj sbits)] := news_sub N5 (by walk_at "my_mems")
  refine Own.SpecR.useM (f := 273) (self := .ref b) (append_bits_spec b dx d (bs) m 4 _ _ ps (by decide) (by (try simp only [List.length_append, bitsOf_len]); omega) hps) (M5.get (by k_mem)) C F5 M5 rfl (by walk_at "my_mems") G5 (by omega) (by omega) fun v5 nw5 h5 tk5 g5 hP5 F5' N5' hap5 G5' => ?_
  obtain ⟨rfl, ps5, rfl, hps5⟩ := hP5
  have N5'' := ws_led (bs' := (bs) ++ bitsOf m 4) M5 (Ne.symm hdd) N5'
  clear F5 N5 G5 M5
  refine ⟨rfl, ?_⟩
  dsimp only
  refine wpR_execs_cons (wpR_If (wpR_of ?_))
  k_fold
  k_steps
  rotate_left
  · exfalso; omega
  refine wpR_execs_app (l₁ := [_]) (l₂ := [_]) ?_
  (try k_fold)
  k_steps
  refine wpR_execs_cons (wpR_Expr (wpR_CallName ?_))
  k_fold
  k_steps
  refine wpR_callM (K := Mine02.hd.heap_39 w.params) (g := 273) (self := .ref b) (h₀ := g) (L := L) (news := []) (by k_is) ?_
  k_fold
  k_steps
  have F6 := ‹Fr g L _ _›
  have N6 := ‹News g L _ _›
  have G6 := ‹AllBare _›
  have M6 : News g L _ [(b, bufObj dx d), (dx, dictOf [] 0), (d, baObj (bs ++ bitsOf m 4)), (268, X.tableObj ps5), (_, methodObj (.ref 273) (.ref b)), (sx, segObj sdx [.ref dd, .int c tc, .int m tm, e]), (sdx, dictOf [] 0), (dd, baObj sbits)] := news_sub N6 (by walk_at "my_mems")
  refine Own.SpecR.useM (f := 273) (self := .ref b) (append_bits_spec b dx d (bs ++ bitsOf m 4) 1 4 _ _ ps5 (by decide) (by (try simp only [List.length_append, bitsOf_len]); omega) hps5) (M6.get (by k_mem)) C F6 M6 rfl (by walk_at "my_mems") G6 (by omega) (by omega) fun v6 nw6 h6 tk6 g6 hP6 F6' N6' hap6 G6' => ?_
  obtain ⟨rfl, ps6, rfl, hps6⟩ := hP6
  have N6'' := ws_led (bs' := (bs ++ bitsOf m 4) ++ bitsOf 1 4) M6 (Ne.symm hdd) N6'
  clear F6 N6 G6 M6
  refine ⟨rfl, ?_⟩
  dsimp only
  refine wpR_execs_nil ?_
  dsimp only
  refine wpR_execs_nil ?_
  dsimp only
  refine wpR_execs_cons (wpR_Expr (wpR_CallName ?_))
  k_fold
  k_steps
  refine wpR_callM (K := Mine02.hd.heap_39 w.params) (g := 273) (self := .ref b) (h₀ := g) (L := L) (news := []) (by k_is) ?_
  k_fold
  k_steps
  have F7 := ‹Fr g L _ _›
  have N7 := ‹News g L _ _›
  have G7 := ‹AllBare _›
  have M7 : News g L _ [(b, bufObj dx d), (dx, dictOf [] 0), (d, baObj ((bs ++ bitsOf m 4) ++ bitsOf 1 4)), (268, X.tableObj ps6), (_, methodObj (.ref 273) (.ref b)), (sx, segObj sdx [.ref dd, .int c tc, .int m tm, e]), (sdx, dictOf [] 0), (dd, baObj sbits)] := news_sub N7 (by walk_at "my_mems")
  refine Own.SpecR.useM (f := 273) (self := .ref b) (append_bits_spec b dx d ((bs ++ bitsOf m 4) ++ bitsOf 1 4) c (wid m vr) _ _ ps6 (by unfold wid; (repeat' split) <;> decide) (by (try simp only [List.length_append, bitsOf_len]); omega) hps6) (M7.get (by k_mem)) C F7 M7 rfl (by walk_at "my_mems") G7 (by omega) (by omega) fun v7 nw7 h7 tk7 g7 hP7 F7' N7' hap7 G7' => ?_
  obtain ⟨rfl, ps7, rfl, hps7⟩ := hP7
  have N7'' := ws_led (bs' := ((bs ++ bitsOf m 4) ++ bitsOf 1 4) ++ bitsOf c (wid m vr)) M7 (Ne.symm hdd) N7'
  clear F7 N7 G7 M7
  refine ⟨rfl, ?_⟩
  dsimp only
  refine wpR_execs_cons (wpR_Expr (wpR_MethodCall rfl rfl rfl ?_))
  k_fold
  k_steps
  dsimp only
  refine wpR_callK (K := Mine02.hd.heap_39 w.params) (by k_is) ?_
  k_fold
  k_steps
  (try dsimp only [List.cons_append, List.nil_append])
  have F9 := ‹Fr g L _ _›
  have N9 := ‹News g L _ _›
  have G9 := ‹AllBare _›
  refine Own.SpecR.use (bext_spec b dx d dd (((bs ++ bitsOf m 4) ++ bitsOf 1 4) ++ bitsOf c (wid m vr)) sbits hdd (by simp only [List.length_append, bitsOf_len]; omega)) C F9 N9 rfl (by walk_at "my_mems") G9 (by omega) (by omega) fun v9 nw9 h9 tk9 g9 hP9 F9' N9' hap9 G9' => ?_
  obtain ⟨rfl, rfl⟩ := hP9
  have N10 := ws_led2 (bs' := (((bs ++ bitsOf m 4) ++ bitsOf 1 4) ++ bitsOf c (wid m vr)) ++ sbits) N9 N9'
  refine ⟨rfl, wpR_execs_nil ?_⟩
  dsimp only [retOf]
  exact ⟨_, _, _, F9', N10, ⟨rfl, ps7, hps7, rfl⟩, G9', rfl, rfl⟩
end
section
variable {w : World} {mg mb : Str → Option Value} {bm : Addr} {ob : Obj}
abbrev allK (b : Array UInt8) (n : Nat) : Bool := (List.range n).all fun i => pairK ((b.getD (2 * i) 0).toNat : Int) ((b.getD (2 * i + 1) 0).toNat : Int)
abbrev allH (b : Array UInt8) (n : Nat) : Bool := (List.range n).all fun i => pairH ((b.getD (2 * i) 0).toNat : Int) ((b.getD (2 * i + 1) 0).toNat : Int)
structure Sg where
  x : Addr
  dx : Addr
  dd : Addr
  tc : Tok
  tm : Tok
  e : Value
  count : Int
  mode : Int
  bits : List Int
abbrev Sg.led (s : Sg) : Led := [(s.x, segObj s.dx [.ref s.dd, .int s.count s.tc, .int s.mode s.tm, s.e]), (s.dx, dictOf [] 0), (s.dd, baObj s.bits)]
def segBits (b : Array UInt8) (n : Nat) (m : Int) : List Int :=
  if m = 4 then (List.range b.size).flatMap fun j => bitsOf ((b.getD j 0).toNat : Int) 8
  else if m = 8 then (List.range n).flatMap fun j => bitsOf (kanjiV ((b.getD (2 * j) 0).toNat : Int) ((b.getD (2 * j + 1) 0).toNat : Int)) 13
  else (List.range n).flatMap fun j => bitsOf (hanziV ((b.getD (2 * j) 0).toNat : Int) ((b.getD (2 * j + 1) 0).toNat : Int)) 13
def segCount (n : Nat) (m : Int) : Int := if m = 4 then ((2 * n : Nat) : Int) else (n : Int)
def Good (b : Array UInt8) (n : Nat) (m : Int) : Prop := m = 4 ∨ (m = 8 ∧ allK b n = true) ∨ (m = 13 ∧ allH b n = true)
def SgOk (b : Array UInt8) (n : Nat) (s : Sg) : Prop := s.bits = segBits b n s.mode ∧ s.count = segCount n s.mode ∧ EncOk s.mode s.e ∧ Good b n s.mode
theorem segBits_len {b : Array UInt8} {n : Nat} (hb : b.size = 2 * n) (m : Int) : (segBits b n m).length ≤ 16 * n := by
  unfold segBits
  split
  · rw [bits_len (fun j => ((b.getD j 0).toNat : Int))]; omega
  · split
    · rw [bits_len (fun j => kanjiV ((b.getD (2 * j) 0).toNat : Int) ((b.getD (2 * j + 1) 0).toNat : Int))]; omega
    · rw [bits_len (fun j => hanziV ((b.getD (2 * j) 0).toNat : Int) ((b.getD (2 * j + 1) 0).toNat : Int))]; omega
def Kept (b : Array UInt8) (n : Nat) (m : Int) (r : Value) (nw : Led) : Prop :=
  ∃ sg : Sg, ∃ ps', r = .ref sg.x ∧ sg.mode = m ∧ SgOk b n sg ∧ TriplesOk ps'.toList ∧ ∀ q ∈ (268, X.tableObj ps') :: sg.led, q ∈ nw
theorem kept_of {b : Array UInt8} {n : Nat} {m : Int} (hg : Good b n m) {bits : List Int} {count : Int} (hbits : bits = segBits b n m) (hcount : count = segCount n m) {r : Value} {nw : Led} (h : SegMade bits count m r nw) : Kept b n m r nw := by
  obtain ⟨x, dx, dd, tc, tm, e, ps', rfl, hps, he, hq⟩ := h
  refine ⟨⟨x, dx, dd, tc, tm, e, count, m, bits⟩, ps', rfl, rfl, ⟨hbits, hcount, he, hg⟩, hps, fun q hq' => ?_⟩
  simp only [Sg.led, List.mem_cons, List.not_mem_nil, or_false] at hq'
  refine hq q ?_
  rcases hq' with rfl | rfl | rfl | rfl <;> simp
theorem mkseg_keep (b : Array UInt8) (n : Nat) (hb : b.size = 2 * n) (hn0 : 0 < n) (hn : n ≤ 8) (hc : ∀ i, i < n → 161 ≤ (b.getD (2 * i + 1) 0).toNat) (m : Int) (hg : Good b n m) (t tm : Tok) (ps : Array Value) (hps : TriplesOk ps.toList)
    (pos : List Value) (hpos : pos = [.bytes b t, .int m tm] ∨ pos = [.bytes b t, .int m tm, .none]) : SPR w mg mb bm ob 8 120 59 pos [] [(268, X.tableObj ps)] (Kept b n m) := by
  rcases id hg with rfl | ⟨rfl, hall⟩ | ⟨rfl, hall⟩
  · exact (mkseg4_spec b n hb hn0 hn t tm ps hps pos hpos).mono fun v nw h => kept_of hg rfl rfl h
  · exact (mkseg8_spec b n hb hn0 hn hc hall t tm ps hps pos hpos).mono fun v nw h => kept_of hg rfl rfl h
  · exact (mkseg13_spec b n hb hn0 hn hc hall t tm ps hps pos hpos).mono fun v nw h => kept_of hg rfl rfl h
theorem mkseg_none (b : Array UInt8) (n : Nat) (hb : b.size = 2 * n) (hn0 : 0 < n) (hn : n ≤ 8) (hc : ∀ i, i < n → 161 ≤ (b.getD (2 * i + 1) 0).toNat) (t : Tok) (ps : Array Value) (hps : TriplesOk ps.toList) :
    SPR w mg mb bm ob 8 120 59 [.bytes b t, .none] [] [(268, X.tableObj ps)] (Kept b n (if allK b n = true then 8 else 4)) := by
  cases hall : allK b n with
  | true =>
    rw [if_pos rfl]
    exact (mksegN8_spec b n hb hn0 hn hc hall t ps hps _ (.inl rfl)).mono fun v nw h => kept_of (.inr (.inl ⟨rfl, hall⟩)) rfl rfl h
  | false =>
    rw [if_neg (by decide)]
    exact (mksegN4_spec b n hb hn0 hn hc hall t ps hps _ (.inl rfl)).mono fun v nw h => kept_of (.inl rfl) rfl rfl h
theorem mkseg_bad (b : Array UInt8) (n : Nat) (hb : b.size = 2 * n) (hn0 : 0 < n) (hn : n ≤ 8) (hc : ∀ i, i < n → 161 ≤ (b.getD (2 * i + 1) 0).toNat) (m : Int) (hm : m = 1 ∨ m = 2 ∨ m = 8 ∨ m = 13) (hg : ¬ Good b n m) (t tm : Tok) (ps : Array Value) (hps : TriplesOk ps.toList) :
    SPX w mg mb bm ob 8 120 59 [.bytes b t, .int m tm] [] [(268, X.tableObj ps)] (fun _ _ => False) VErr := by
  rcases hm with rfl | rfl | rfl | rfl
  · exact mkseg1_spec b n hb hn0 hn hc t tm ps hps
  · exact mkseg2_spec b n hb hn0 hn hc t tm ps hps
  · refine mkseg8_bad b n hb hn0 hn hc ?_ t tm ps hps
    cases h : allK b n with
    | true => exact absurd (.inr (.inl ⟨rfl, h⟩)) hg
    | false => exact h
  · refine mkseg13_bad b n hb hn0 hn hc ?_ t tm ps hps
    cases h : allH b n with
    | true => exact absurd (.inr (.inr ⟨rfl, h⟩)) hg
    | false => exact h
abbrev sgLed (x dx lm ls : Addr) (n : Int) (t : Tok) (c1 c2 : Nat) (sgs : List Sg) : Led :=
  [(x, sgsObj dx n t lm ls), (dx, dictOf [] 0), (ls, listOf (sgs.map fun s => Value.ref s.x).toArray c1), (lm, listOf (sgs.map fun s => Value.int s.mode s.tm).toArray c2)]
theorem sgs_cls {sgs : List Sg} {q : Addr × Obj} (h : q ∈ sgs.flatMap Sg.led) : q.2.cls = .ref 239 ∨ q.2.cls = .type "dict" ∨ q.2.cls = .type "bytearray" := by
  obtain ⟨s, _, hq⟩ := List.mem_flatMap.mp h
  simp only [Sg.led, List.mem_cons, List.not_mem_nil, or_false] at hq
  rcases hq with rfl | rfl | rfl
  · exact .inl rfl
  · exact .inr (.inl rfl)
  · exact .inr (.inr rfl)
theorem addseg_spec (x dx lm ls : Addr) (n : Int) (t : Tok) (c1 c2 : Nat) (sgs : List Sg) (s : Sg) (hll : @Ne Nat ls lm) (hlen : sgs.length ≤ 10) (hbl : s.bits.length ≤ 1000) (hdiff : ∀ p, sgs.getLast? = some p → p.mode ≠ s.mode) :
    SPR w mg mb bm ob 5 60 114 [.ref x, .ref s.x] [] (sgLed x dx lm ls n t c1 c2 sgs ++ (sgs.flatMap Sg.led ++ s.led))
      (fun r nw => r = .none ∧ ∃ t' c1' c2', ∀ q ∈ sgLed x dx lm ls (n + s.bits.length) t' c1' c2' (sgs ++ [s]) ++ (sgs ++ [s]).flatMap Sg.led, q ∈ nw) := by
  have hcl : ∀ g L h, News g L h (sgLed x dx lm ls n t c1 c2 sgs ++ (sgs.flatMap Sg.led ++ s.led)) → ∀ r ∈ sgs.flatMap Sg.led ++ s.led, r.1 ∉ [x, ls, lm] := by
    intro g L h N r hr
    have hr' : r.2.cls = .ref 239 ∨ r.2.cls = .type "dict" ∨ r.2.cls = .type "bytearray" := by
      rcases List.mem_append.mp hr with hr | hr
      · exact sgs_cls hr
      · exact sgs_cls (sgs := [s]) (by simpa using hr)
    have hm := List.mem_append_right (sgLed x dx lm ls n t c1 c2 sgs) hr
    obtain ⟨ra, ro⟩ := r
    have k1 := fun hne => news_ne N (a := ra) (b := x) hm (by simp only [sgLed, List.cons_append]; exact .head _) hne
    have k2 := fun hne => news_ne N (a := ra) (b := ls) hm (by simp only [sgLed, List.cons_append]; exact .tail _ (.tail _ (.head _))) hne
    have k3 := fun hne => news_ne N (a := ra) (b := lm) hm (by simp only [sgLed, List.cons_append]; exact .tail _ (.tail _ (.tail _ (.head _)))) hne
    simp only [List.mem_cons, List.not_mem_nil, or_false, not_or]
    dsimp only at hr' k1 k2 k3
    refine ⟨k1 ?_, k2 ?_, k3 ?_⟩ <;> (rcases hr' with e | e | e <;> rw [e] <;> first | (intro z; cases z; done) | simp | decide)
  rcases List.eq_nil_or_concat sgs with rfl | ⟨sg0, p, rfl⟩
  · have S := (addseg0_spec (w := w) (mg := mg) (mb := mb) (bm := bm) (ob := ob) x dx lm ls s.x s.dx s.dd n s.count s.mode t s.tc s.tm s.e s.bits c1 c2 hbl hll).toR
    refine SpecR.mono (SpecR.widen S ?_ [] (fun _ h => nomatch h) [x, ls, lm] (fun _ _ _ _ _ h => nomatch h) ?_) ?_
    · intro q hq
      simpa [sgLed] using hq
    · rintro v nw ⟨_, t', c1', c2', rfl⟩ q hq
      simp only [List.cons_append, List.nil_append, List.mem_cons, List.not_mem_nil, or_false] at hq ⊢
      rcases hq with rfl | rfl | rfl | rfl | rfl | rfl | rfl <;> simp
    · rintro v nw ⟨nw, ⟨rfl, t', c1', c2', rfl⟩, rfl⟩
      refine ⟨rfl, t', c1', c2', fun q hq => ?_⟩
      simpa [sgLed] using hq
  · rw [List.concat_eq_append] at *
    have hp := hdiff p (by simp)
    have S := (addseg1_spec (w := w) (mg := mg) (mb := mb) (bm := bm) (ob := ob) x dx lm ls p.x p.dx s.x s.dx s.dd n s.count s.mode p.mode t s.tc s.tm p.tm (.ref p.dd) (.int p.count p.tc) p.e s.e s.bits ((sg0 ++ [p]).map fun s => Value.ref s.x).toArray ((sg0 ++ [p]).map fun s => Value.int s.mode s.tm).toArray (by simp) (by simp) c1 c2 hbl hll hp (by simp at hlen ⊢; omega) (by simp at hlen ⊢; omega)).toR
    refine SpecR.mono (SpecR.widen S ?_ ((sg0 ++ [p]).flatMap Sg.led ++ s.led) (fun r hr => List.mem_append_right _ hr) [x, ls, lm] hcl ?_) ?_
    · intro q hq
      simp only [List.mem_append, List.mem_cons, List.not_mem_nil, or_false] at hq
      simp only [sgLed, List.mem_append, List.mem_cons, List.not_mem_nil, or_false, List.flatMap_append, List.flatMap_cons, List.flatMap_nil, Sg.led]
      rcases hq with (((rfl | rfl | rfl | rfl) | (rfl | rfl)) | (rfl | rfl)) | rfl <;> simp
    · rintro v nw ⟨_, t', c1', c2', rfl⟩ q hq
      simp only [List.cons_append, List.nil_append, List.mem_cons, List.not_mem_nil, or_false] at hq ⊢
      rcases hq with rfl | rfl | rfl | rfl | rfl | rfl | rfl | rfl | rfl <;> simp
    · rintro v nw ⟨nw, ⟨rfl, t', c1', c2', rfl⟩, rfl⟩
      refine ⟨rfl, t', c1', c2', fun q hq => ?_⟩
      rcases List.mem_append.mp hq with hq | hq
      · refine List.mem_append_left _ ?_
        simp only [sgLed, List.mem_cons, List.not_mem_nil, or_false] at hq
        rcases hq with rfl | rfl | rfl | rfl <;> simp
      · refine List.mem_append_right _ ?_
        rw [List.flatMap_append] at hq
        simpa using hq
end
end
section
local macro_rules | `(tactic| walk_at "getAttr ref") => `(tactic| (k_here; (with_reducible show wpAny _ _ (getAttr (Value.ref _) (PySem.Str.ofString "add_segment") _) _ _ _); k_dflt (refine' Own.get_bmeth ?b1 ?b2 ?b3 ?b4 ?b5 ?b6 ?b7 ?_; (case b1 => k_asm); (case b2 => k_asm); (case b3 => k_asm); (case b4 => k_inst); (case b5 => k_is); (case b6 => exact rfl); (case b7 => k_is)); intro q' h' F' N' l1))
section
variable {w : World} {mg mb : Str → Option Value} {bm : Addr} {ob : Obj}
abbrev Tp := Addr × Int × Tok
abbrev tpLed (b : Array UInt8) (t : Tok) (ts : List Tp) : Led := ts.map fun z => (z.1, tupObj [.bytes b t, .int z.2.1 z.2.2])
theorem sub_cls {x dx lm ls : Addr} {n : Int} {t : Tok} {c1 c2 : Nat} {sgs : List Sg} {s : Sg} {r : Addr × Obj} (h : r ∈ sgLed x dx lm ls n t c1 c2 sgs ++ (sgs.flatMap Sg.led ++ s.led)) :
    r.2.cls = .ref 147 ∨ r.2.cls = .ref 239 ∨ r.2.cls = .type "dict" ∨ r.2.cls = .type "bytearray" ∨ (r.2.cls = .type "list" ∧ (r.1 = ls ∨ r.1 = lm)) := by
  rcases List.mem_append.mp h with h | h
  · simp only [sgLed, List.mem_cons, List.not_mem_nil, or_false] at h
    rcases h with rfl | rfl | rfl | rfl
    · exact .inl rfl
    · exact .inr (.inr (.inl rfl))
    · exact .inr (.inr (.inr (.inr ⟨rfl, .inl rfl⟩)))
    · exact .inr (.inr (.inr (.inr ⟨rfl, .inr rfl⟩)))
  · have := sgs_cls (sgs := sgs ++ [s]) (q := r) (by rw [List.flatMap_append]; simpa using h)
    rcases this with h | h | h
    · exact .inr (.inl h)
    · exact .inr (.inr (.inl h))
    · exact .inr (.inr (.inr (.inl h)))
theorem other_cls {x dx lm ls : Addr} {n : Int} {t : Tok} {c1 c2 : Nat} {sgs : List Sg} {s : Sg} {q : Addr × Obj} (hq : q.2.cls = .type "list_iterator" ∨ q.2.cls = .type "method" ∨ q.2.cls = .type "tuple" ∨ q.2.cls = .none ∨ (q.2.cls = .type "list" ∧ @Ne Nat q.1 ls ∧ @Ne Nat q.1 lm)) :
    ∀ r ∈ sgLed x dx lm ls n t c1 c2 sgs ++ (sgs.flatMap Sg.led ++ s.led), q.2.cls ≠ r.2.cls ∨ @Ne Nat q.1 r.1 := by
  intro r hr
  rcases sub_cls hr with h | h | h | h | ⟨h, h'⟩
  · left; rw [h]; rcases hq with e | e | e | e | ⟨e, _⟩ <;> rw [e] <;> simp
  · left; rw [h]; rcases hq with e | e | e | e | ⟨e, _⟩ <;> rw [e] <;> simp
  · left; rw [h]; rcases hq with e | e | e | e | ⟨e, _⟩ <;> rw [e] <;> simp
  · left; rw [h]; rcases hq with e | e | e | e | ⟨e, _⟩ <;> rw [e] <;> simp
  · rcases hq with e | e | e | e | ⟨e, h1, h2⟩
    · left; rw [h, e]; simp
    · left; rw [h, e]; simp
    · left; rw [h, e]; simp
    · left; rw [h, e]; simp
    · right; rcases h' with h' | h' <;> rw [h'] <;> assumption
abbrev pLed (I as x dx lm ls cl : Addr) (oI : Obj) (nn : Int) (tt : Tok) (c1 c2 c0 : Nat) (ps : Array Value) (b : Array UInt8) (t : Tok) (ts : List Tp) (sgs : List Sg) : Led :=
  (I, oI) :: (as, methodObj (.ref 114) (.ref x)) :: (sgLed x dx lm ls nn tt c1 c2 sgs ++ ((cl, listOf (ts.map fun z => Value.ref z.1).toArray c0) :: (268, X.tableObj ps) :: (tpLed b t ts ++ sgs.flatMap Sg.led)))
theorem tp_cls {b : Array UInt8} {t : Tok} {ts : List Tp} {q : Addr × Obj} (h : q ∈ tpLed b t ts) : q.2.cls = .type "tuple" := by
  obtain ⟨z, _, rfl⟩ := List.mem_map.mp h
  rfl
/-- behind make_segment -/
theorem p_led1 {g h h' : Heap} {L I as x dx lm ls cl : Addr} {oI : Obj} {nn : Int} {tt : Tok} {c1 c2 c0 : Nat} {ps ps2 : Array Value} {b : Array UInt8} {t : Tok} {ts : List Tp} {sgs : List Sg} {sg : Sg} {nw : Led} (hI : oI.cls = .type "list_iterator")
    (N : News g L h (pLed I as x dx lm ls cl oI nn tt c1 c2 c0 ps b t ts sgs)) (hq : ∀ q ∈ (268, X.tableObj ps2) :: sg.led, q ∈ nw)
    (hN : ∀ l : Led, (∀ r ∈ l, r ∈ nw ∨ (r ∈ pLed I as x dx lm ls cl oI nn tt c1 c2 c0 ps b t ts sgs ∧ r.1 ∉ [(268, X.tableObj ps)].map (·.1))) → News g L h' l) :
    News g L h' (pLed I as x dx lm ls cl oI nn tt c1 c2 c0 ps2 b t ts sgs ++ sg.led) := by
  have h268 : (268, X.tableObj ps) ∈ pLed I as x dx lm ls cl oI nn tt c1 c2 c0 ps b t ts sgs := by simp [pLed]
  have key : ∀ r ∈ pLed I as x dx lm ls cl oI nn tt c1 c2 c0 ps b t ts sgs, r.2.cls ≠ .none → r ∈ nw ∨ (r ∈ pLed I as x dx lm ls cl oI nn tt c1 c2 c0 ps b t ts sgs ∧ r.1 ∉ [(268, X.tableObj ps)].map (·.1)) := fun r hr hc =>
    .inr ⟨hr, Own.not_sub N hr (fun z hz => by rw [List.mem_singleton.mp hz]; exact h268) fun z hz => .inl (by rw [List.mem_singleton.mp hz]; exact hc)⟩
  refine hN _ fun r hr => ?_
  rcases List.mem_append.mp hr with hr | hr
  · simp only [pLed, sgLed, List.cons_append, List.nil_append, List.mem_cons, List.mem_append] at hr
    rcases hr with rfl | rfl | rfl | rfl | rfl | rfl | rfl | rfl | hr | hr
    · exact key _ (by simp [pLed]) (by rw [hI]; simp)
    · exact key _ (by simp [pLed]) (by simp)
    · exact key _ (by simp [pLed]) (by simp)
    · exact key _ (by simp [pLed]) (by simp [dictOf])
    · exact key _ (by simp [pLed]) (by simp)
    · exact key _ (by simp [pLed]) (by simp)
    · exact key _ (by simp [pLed]) (by simp)
    · exact .inl (hq _ (.head _))
    · exact key _ (by simp only [pLed, List.mem_cons, List.mem_append]; simp [hr]) (by rw [tp_cls hr]; simp)
    · exact key _ (by simp only [pLed, List.mem_cons, List.mem_append]; simp only [hr, or_true]) (by rcases sgs_cls hr with e | e | e <;> rw [e] <;> simp)
  · exact .inl (hq _ (.tail _ hr))
/-- behind add_segment -/
theorem p_led2 {g h h' : Heap} {L I as x dx lm ls cl : Addr} {oI : Obj} {nn nn' : Int} {tt tt' : Tok} {c1 c2 c0 c1' c2' : Nat} {ps : Array Value} {b : Array UInt8} {t : Tok} {ts : List Tp} {sgs : List Sg} {sg : Sg} {nw : Led} (hI : oI.cls = .type "list_iterator") (h1 : @Ne Nat cl ls) (h2 : @Ne Nat cl lm)
    (N : News g L h (pLed I as x dx lm ls cl oI nn tt c1 c2 c0 ps b t ts sgs ++ sg.led)) (hq : ∀ q ∈ sgLed x dx lm ls nn' tt' c1' c2' (sgs ++ [sg]) ++ (sgs ++ [sg]).flatMap Sg.led, q ∈ nw) (hsub : ∀ q ∈ sgLed x dx lm ls nn tt c1 c2 sgs ++ (sgs.flatMap Sg.led ++ sg.led), q ∈ pLed I as x dx lm ls cl oI nn tt c1 c2 c0 ps b t ts sgs ++ sg.led)
    (hN : ∀ l : Led, (∀ r ∈ l, r ∈ nw ∨ (r ∈ pLed I as x dx lm ls cl oI nn tt c1 c2 c0 ps b t ts sgs ++ sg.led ∧ r.1 ∉ (sgLed x dx lm ls nn tt c1 c2 sgs ++ (sgs.flatMap Sg.led ++ sg.led)).map (·.1))) → News g L h' l) :
    News g L h' (pLed I as x dx lm ls cl oI nn' tt' c1' c2' c0 ps b t ts (sgs ++ [sg])) := by
  have key : ∀ r ∈ pLed I as x dx lm ls cl oI nn tt c1 c2 c0 ps b t ts sgs ++ sg.led, (r.2.cls = .type "list_iterator" ∨ r.2.cls = .type "method" ∨ r.2.cls = .type "tuple" ∨ r.2.cls = .none ∨ (r.2.cls = .type "list" ∧ @Ne Nat r.1 ls ∧ @Ne Nat r.1 lm)) →
      r ∈ nw ∨ (r ∈ pLed I as x dx lm ls cl oI nn tt c1 c2 c0 ps b t ts sgs ++ sg.led ∧ r.1 ∉ (sgLed x dx lm ls nn tt c1 c2 sgs ++ (sgs.flatMap Sg.led ++ sg.led)).map (·.1)) := fun r hr hc =>
    .inr ⟨hr, Own.not_sub N hr hsub (other_cls hc)⟩
  refine hN _ fun r hr => ?_
  simp only [pLed, List.mem_cons, List.mem_append] at hr
  rcases hr with rfl | rfl | hr | rfl | rfl | hr | hr
  · exact key _ (by simp [pLed]) (.inl hI)
  · exact key _ (by simp [pLed]) (.inr (.inl rfl))
  · exact .inl (hq _ (by simp only [List.mem_append, List.mem_cons]; exact .inl hr))
  · exact key _ (by simp [pLed]) (.inr (.inr (.inr (.inr ⟨rfl, h1, h2⟩))))
  · exact key _ (by simp [pLed]) (.inr (.inr (.inr (.inl rfl))))
  · exact key _ (by simp only [pLed, List.mem_cons, List.mem_append]; simp [hr]) (.inr (.inr (.inl (tp_cls hr))))
  · exact .inl (hq _ (by simp only [List.mem_append]; exact .inr hr))
theorem p_sub {I as x dx lm ls cl : Addr} {oI : Obj} {nn : Int} {tt : Tok} {c1 c2 c0 : Nat} {ps : Array Value} {b : Array UInt8} {t : Tok} {ts : List Tp} {sgs : List Sg} {sg : Sg} :
    ∀ r ∈ sgLed x dx lm ls nn tt c1 c2 sgs ++ (sgs.flatMap Sg.led ++ sg.led), r ∈ pLed I as x dx lm ls cl oI nn tt c1 c2 c0 ps b t ts sgs ++ sg.led := fun r hr => by
  rcases List.mem_append.mp hr with hr | hr
  · exact List.mem_append_left _ (.tail _ (.tail _ (List.mem_append_left _ hr)))
  · rcases List.mem_append.mp hr with hr | hr
    · exact List.mem_append_left _ (.tail _ (.tail _ (List.mem_append_right _ (.tail _ (.tail _ (List.mem_append_right _ hr))))))
    · exact List.mem_append_right _ hr
theorem p_hap {I as x dx lm ls cl : Addr} {nn nn' : Int} {tt tt' : Tok} {c1 c2 c0 c1' c2' : Nat} {ps ps2 : Array Value} {b : Array UInt8} {t : Tok} {ts : List Tp} {sgs : List Sg} {sg : Sg}
    (hap : ∀ r ∈ (as, methodObj (.ref 114) (.ref x)) :: (sgLed x dx lm ls nn tt c1 c2 sgs ++ ((cl, listOf (ts.map fun z => Value.ref z.1).toArray c0) :: (268, X.tableObj ps) :: (tpLed b t ts ++ sgs.flatMap Sg.led))), r.1 ≠ I) (hs : ∀ r ∈ sg.led, r.1 ≠ I) :
    ∀ r ∈ (as, methodObj (.ref 114) (.ref x)) :: (sgLed x dx lm ls nn' tt' c1' c2' (sgs ++ [sg]) ++ ((cl, listOf (ts.map fun z => Value.ref z.1).toArray c0) :: (268, X.tableObj ps2) :: (tpLed b t ts ++ (sgs ++ [sg]).flatMap Sg.led))), r.1 ≠ I := by
  intro r hr
  simp only [sgLed, List.cons_append, List.nil_append, List.mem_cons, List.mem_append, List.flatMap_append] at hr
  rcases hr with rfl | rfl | rfl | rfl | rfl | rfl | rfl | hr | hr | hr
  · exact hap _ (by simp)
  · exact hap (x, sgsObj dx nn tt lm ls) (by simp)
  · exact hap (dx, dictOf [] 0) (by simp)
  · exact hap (ls, listOf (sgs.map fun s => Value.ref s.x).toArray c1) (by simp)
  · exact hap (lm, listOf (sgs.map fun s => Value.int s.mode s.tm).toArray c2) (by simp)
  · exact hap _ (by simp)
  · exact hap (268, X.tableObj ps) (by simp)
  · exact hap _ (by simp only [List.mem_cons, List.mem_append]; simp only [hr, true_or, or_true])
  · exact hap _ (by simp only [List.mem_cons, List.mem_append]; simp only [hr, true_or, or_true])
  · exact hs _ (by simpa using hr)
theorem prep_spec (b : Array UInt8) (n : Nat) (hb : b.size = 2 * n) (hn0 : 0 < n) (hn : n ≤ 8) (hc : ∀ i, i < n → 161 ≤ (b.getD (2 * i + 1) 0).toNat) (t : Tok) (ps : Array Value) (hps : TriplesOk ps.toList) (cl : Addr) (c0 : Nat) (ts : List Tp) (hts : ts.length ≤ 5) (hnd : (ts.map fun z => z.2.1).Nodup) (hgood : ∀ z ∈ ts, Good b n z.2.1) :
    SPR w mg mb bm ob 12 190 44 [.ref cl, .none, .none] [] ([(cl, listOf (ts.map fun z => Value.ref z.1).toArray c0), (268, X.tableObj ps)] ++ tpLed b t ts)
    (fun r nw => ∃ x dx lm ls nn tt c1 c2 ps' sgs, r = .ref x ∧ @Ne Nat ls lm ∧ TriplesOk ps'.toList ∧ sgs.map (·.mode) = ts.map (fun z => z.2.1) ∧ (∀ s ∈ sgs, SgOk b n s) ∧ ∀ q ∈ (268, X.tableObj ps') :: (sgLed x dx lm ls nn tt c1 c2 sgs ++ sgs.flatMap Sg.led), q ∈ nw) := by
  walk_at "my_startR"
  intro dp un gd L outer A₀ base g h₁ gn d' tk os C F N hsub hG hdp hu
  have X' := C.X
  have T' := C.T
  have B' := C.B
  have M' := C.M
  simp only [List.cons_append, List.nil_append] at N hsub
  refine wpR_execs_cons (wpR_Assign_Name (wpR_CallName ?_))
  (try dsimp only)
  (try k_fold)
  k_steps
  refine wpR_callK0 (K := Mine02.hd.heap_39 w.params) (C.X.keeps F.keep) (by k_is) ?_
  refine Own.SpecR.use0 (sgs_spec) C F N rfl hG (by omega) (by omega) fun v nw h' tk' g' hP F' N' hap hG' => ?_
  obtain ⟨x, dx, tt, lm, ls, rfl, hll, hq⟩ := hP
  have N2 : News g L h' ((x, sgsObj dx 0 tt lm ls) :: (dx, dictOf [] 0) :: (ls, listOf #[] 0) :: (lm, listOf #[] 0) :: (cl, listOf (ts.map fun z => Value.ref z.1).toArray c0) :: (268, X.tableObj ps) :: tpLed b t ts) := news_sub N' (by
    intro q hq'
    simp only [List.mem_cons] at hq'
    rcases hq' with rfl | rfl | rfl | rfl | h
    · exact List.mem_append_left _ (hq _ (by k_mem))
    · exact List.mem_append_left _ (hq _ (by k_mem))
    · exact List.mem_append_left _ (hq _ (by k_mem))
    · exact List.mem_append_left _ (hq _ (by k_mem))
    · exact List.mem_append_right _ (by simpa using h))
  have hcls : @Ne Nat cl ls := hap (cl, _) (.head _) (ls, listOf #[] 0) (hq _ (by k_mem))
  have hclm : @Ne Nat cl lm := hap (cl, _) (.head _) (lm, listOf #[] 0) (hq _ (by k_mem))
  clear N' hap N F hG
  dsimp only
  (try k_fold)
  k_steps
  refine wpR_execs_app (l₁ := [_, _]) (l₂ := [_, _]) ?_
  (try k_fold)
  k_steps
  have hGn := ‹AllBare _›
  refine wpR_execs_cons (wpR_For ?_)
  k_fold
  k_steps
  have F1 := ‹Fr g L _ _›
  have N1 := Own.news_tl ‹News g L _ _›
  refine wpAny_pyIter_list (Own.isList_of (N1 (cl, listOf (ts.map fun z => Value.ref z.1).toArray c0) (by simp)).1) ?_
  have F2 := keep_fr F1 (h' := _) fun b' o e => Heap.get?_push_of_some (liObj cl 0) e
  have N2 := news_fresh F1 N1 (fun b' o e => Heap.get?_push_of_some (liObj cl 0) e) (Heap.get?_push_size _ rfl)
  have hap := fun (q : Addr × Obj) hq => Nat.ne_of_lt (Heap.lt_size (N1 q hq).1)
  refine forS (n := (ts.map fun z => Value.ref z.1).toArray.size) (ob := fun i => liObj cl i) [Str.ofString "seg_content", Str.ofString "seg_mode", Str.ofString "seg_encoding"] (Steps.list rfl _ cl _ c0) rfl rfl
      (fun i nw => ∃ tt nn c1 c2 ps' sgs, TriplesOk ps'.toList ∧ sgs.map (·.mode) = (ts.take i).map (fun z => z.2.1) ∧ (∀ s ∈ sgs, SgOk b n s) ∧
        nw = (_, methodObj (.ref 114) (.ref x)) :: (sgLed x dx lm ls nn tt c1 c2 sgs ++ ((cl, listOf (ts.map fun z => Value.ref z.1).toArray c0) :: (268, X.tableObj ps') :: (tpLed b t ts ++ sgs.flatMap Sg.led))))
      ?_ F2 (news := _) N2 hap hGn ⟨tt, 0, 0, 0, ps, [], hps, rfl, (fun _ h => absurd h List.not_mem_nil), by simp only [List.flatMap_nil, List.append_nil]; rfl⟩ ?_ ?_
  · rintro i nw h ⟨tt, nn, c1, c2, ps', sgs, _, _, _, rfl⟩ N
    exact (N (cl, listOf (ts.map fun z => Value.ref z.1).toArray c0) (by simp)).1
  · rintro i v u news₁ h3 tk3 gn3 hi hv ⟨tt, nn, c1, c2, ps', sgs, hps', hmodes, hok, rfl⟩ hap3 F3 N3 hG3
    dsimp only at N3 F3
    obtain ⟨z, hz, rfl⟩ : ∃ z, ts[i]? = some z ∧ v = .ref z.1 := by
      simp only [List.getElem?_toArray, List.getElem?_map, Option.map_eq_some_iff] at hv
      obtain ⟨z, h1, h2⟩ := hv
      exact ⟨z, h1, h2.symm⟩
    obtain ⟨T, m, tm⟩ := z
    have hzm : (T, m, tm) ∈ ts := List.mem_of_getElem? hz
    have hg := hgood _ hzm
    have hm3 : m = 4 ∨ m = 8 ∨ m = 13 := by
      rcases hg with h | ⟨h, _⟩ | ⟨h, _⟩
      · exact .inl h
      · exact .inr (.inl h)
      · exact .inr (.inr h)
    have hTm : (T, tupObj [.bytes b t, .int m tm]) ∈ tpLed b t ts := List.mem_map.mpr ⟨(T, m, tm), hzm, rfl⟩
    simp only [sgLed, List.cons_append, List.nil_append] at N3
    have N4 := Own.news_hd N3 (a := (T, tupObj [.bytes b t, .int m tm])) (by simp only [List.mem_cons, List.mem_append]; exact .inr (.inr (.inr (.inr (.inr (.inr (.inr (.inr (.inl hTm)))))))))
    clear N3
    refine wpR_execs_app (l₁ := [_, _]) (l₂ := [_]) ?_
    (try k_fold)
    k_steps
    any_goals (exfalso; omega; done)
    have F4 := ‹Fr g L _ _›
    have N4' := ‹News g L _ _›
    have N5 : News g L _ (pLed _ _ x dx lm ls cl (liObj cl (i + 1)) nn tt c1 c2 c0 ps' b t ts sgs) := Own.news_tl (Own.news_tl N4')
    clear N4'
    have hmem : ∀ r ∈ sgs, r.mode ∈ (ts.map fun z => z.2.1).take i := fun r hr => by
      rw [← List.map_take, ← hmodes]
      exact List.mem_map_of_mem hr
    have hsl : sgs.length ≤ 5 := by
      have := congrArg List.length hmodes
      simp at this
      omega
    have hdiff : ∀ r, sgs.getLast? = some r → r.mode ≠ m := fun r hr e =>
      Own.nodup_take hnd (i := i) (m := m) (by simp [hz]) (e ▸ hmem r (List.mem_of_getLast? hr))
    have G4 := ‹AllBare _›
    refine wpR_execs_cons (wpR_Expr (wpR_CallName ?_))
    k_fold
    k_steps
    refine wpR_callWith (P := MethP (Mine02.hd.heap_39 w.params) _ 114 (.ref x)) rfl (keeps_M (by k_is)) (wpR_evalArgs (wpR_spliced_cons ?_))
    refine wpR_CallName ?_
    k_fold
    k_steps
    refine wpR_callK (K := Mine02.hd.heap_39 w.params) (by k_is) ?_
    k_fold
    k_steps
    (try dsimp only [List.cons_append, List.nil_append])
    refine Own.SpecR.use (mkseg_keep b n hb hn0 hn hc m hg t tm ps' hps' [.bytes b t, .int m tm, .none] (.inr rfl)) C F4 N5 rfl (fun r hr => by rw [List.mem_singleton.mp hr]; simp [pLed]) G4 (by omega) (by omega) fun v5 nw5 h5 tk5 g5 hP5 F5 N5' hap5 G5 => ?_
    obtain ⟨sg, ps2, rfl, hmode, hsok, hps2, hq5⟩ := hP5
    have N6 := p_led1 rfl N5 hq5 N5'
    refine (show wpR _ _ (spliced []) _ _ _ from wpR_spliced_nil ⟨⟨(N6 (_, methodObj (.ref 114) (.ref x)) (by simp [pLed])).1, C.X.keeps F5.keep⟩, ?_⟩)
    refine Own.SpecR.useM (f := 114) (self := .ref x) (addseg_spec x dx lm ls nn tt c1 c2 sgs sg hll (by omega) (by rw [hsok.1]; have := segBits_len hb sg.mode; omega) (by rw [hmode]; exact hdiff)) (N6 (_, methodObj (.ref 114) (.ref x)) (by simp [pLed])).1 C F5 N6 rfl p_sub G5 (by omega) (by omega) fun v7 nw7 h7 tk7 g7 hP7 F7 N7' hap7 G7 => ?_
    obtain ⟨rfl, t7, c17, c27, hq7⟩ := hP7
    have N8 := p_led2 rfl hcls hclm N6 hq7 p_sub N7'
    refine ⟨rfl, wpR_execs_nil ?_⟩
    refine ⟨_, _, ⟨t7, _, c17, c27, ps2, sgs ++ [sg], hps2, ?_, ?_, rfl⟩, ?_, ?_, F7, N8, G7, rfl, rfl⟩
    · rw [List.map_append, hmodes, List.take_succ, hz]
      simp [hmode]
    · intro r hr
      rcases List.mem_append.mp hr with hr | hr
      · exact hok r hr
      · rw [List.mem_singleton.mp hr]; exact hsok
    · intro y h1 h2
      have h3 : y ≠ Str.ofString "seg_content" := by rintro rfl; simp at h2
      have h4 : y ≠ Str.ofString "seg_mode" := by rintro rfl; simp at h2
      have h5 : y ≠ Str.ofString "seg_encoding" := by rintro rfl; simp at h2
      simp only [if_neg h1, if_neg h3, if_neg h4, if_neg h5, h2, Bool.false_eq_true, if_false]
    · exact p_hap hap3 fun r hr e => hap5 (_, liObj cl (i + 1)) (.head _) (Own.not_sub N5 (.head _) (fun z hz => by rw [List.mem_singleton.mp hz]; simp [pLed]) fun z hz => .inl (by rw [List.mem_singleton.mp hz]; simp [X.tableObj])) r (hq5 r (.tail _ hr)) e.symm
  · intro u news' h4 tk4 gn4 hJ4 F4 N4 hG4
    obtain ⟨tt, nn, c1, c2, ps', sgs, hps', hmodes, hok, rfl⟩ := hJ4
    dsimp only
    repeat (refine wpR_execs_nil ?_; dsimp only)
    refine wpR_execs_cons (wpR_Return (wpR_of ?_))
    (try k_fold)
    k_steps
    (try dsimp only [retOf])
    refine ⟨_, _, _, F4, N4, ?_, hG4, rfl, rfl⟩
    refine ⟨x, dx, lm, ls, nn, tt, c1, c2, ps', sgs, rfl, hll, hps', ?_, hok, fun q hq => ?_⟩
    · rw [hmodes, List.take_of_length_le (by simp)]
    · rcases List.mem_cons.mp hq with rfl | hq
      · simp
      · rcases List.mem_append.mp hq with hq | hq
        · exact .tail _ (List.mem_append_left _ hq)
        · exact .tail _ (List.mem_append_right _ (.tail _ (.tail _ (List.mem_append_right _ hq))))
end
section
variable {w : World} {mg mb : Str → Option Value} {bm : Addr} {ob : Obj}
def bodyOf (K : Frag) (f : Addr) : Option (List Stmt × Scope × Str × Value) := match K.lookup f with
  | some ⟨_, _, .func fd, _⟩ => match fd.body with
    | .stmts b => some (b, fd.scope, fd.qualname, fd.code)
    | _ => none
  | _ => none
def PostQ (Post : (Str → Option Value) → Led → Prop) (g : Heap) (L : Addr) (d : Drawn) (os : OsState) (f : Flow) (s' : Shared) : Prop :=
  f = .next ∧ ∃ m' news', Fr g L s'.heap m' ∧ News g L s'.heap news' ∧ Post m' news' ∧ AllBare s'.gens ∧ s'.drawn = d ∧ s'.os = os
/-- what statements i to i + k of the law do -/
def Part (w : World) (mg mb : Str → Option Value) (bm : Addr) (ob : Obj) (i k : Nat) (Gp : Heap → Prop) (Pre Post : (Str → Option Value) → Led → Prop) : Prop :=
  ∀ (b : List Stmt) (sc : Scope) (q : Str) (cd : Value), bodyOf (hd.heap_39 w.params) 327 = some (b, sc, q, cd) →
  ∀ (dp un : Nat) (gd : Option (List Code)) (fa L : Addr) (outer : List Env) (A₀ : Around) (base g h₁ : Heap) (gn : Array GenState) (d : Drawn) (tk : Nat) (os : OsState) (m : Str → Option Value) (news : Led),
    CX w mg mb bm ob A₀ base outer g → Gp g → Fr g L h₁ m → News g L h₁ news → Pre m news → AllBare gn → dp + 40 < recursionLimit → un + 400 < cLine →
    wpR (model PySem.Challenge.rw_im0109_02.row.prog w) (ktrTop dp un gd q sc L fa cd [] outer) (execs ((b.drop i).take k) (envX q sc L fa cd []))
      (PostQ Post g L d os) (fun _ _ => False) ⟨h₁, gn, d, tk, os⟩
theorem part_of {i k : Nat} {Gp : Heap → Prop} {Pre Post : (Str → Option Value) → Led → Prop} {name qual : Str} {params : Arguments} {body : List Stmt} {scope : Scope} {dV kV doc pm cdv ct oc : Value} {an od : Option Addr} {osl : Array (Option Value)}
    (ho : (hd.heap_39 w.params).lookup 327 = some ⟨oc, od, .func (fnX name qual params body scope [] dV kV doc pm an cdv ct), osl⟩)
    (hb : ∀ (dp un : Nat) (gd : Option (List Code)) (fa L : Addr) (outer : List Env) (A₀ : Around) (base g h₁ : Heap) (gn : Array GenState) (d : Drawn) (tk : Nat) (os : OsState) (m : Str → Option Value) (news : Led),
      CX w mg mb bm ob A₀ base outer g → Gp g → Fr g L h₁ m → News g L h₁ news → Pre m news → AllBare gn → dp + 40 < recursionLimit → un + 400 < cLine →
      wpR (model PySem.Challenge.rw_im0109_02.row.prog w) (ktrTop dp un gd qual scope L fa cdv [] outer) (execs ((body.drop i).take k) (envX qual scope L fa cdv []))
        (PostQ Post g L d os) (fun _ _ => False) ⟨h₁, gn, d, tk, os⟩) :
    Part w mg mb bm ob i k Gp Pre Post := by
  intro b sc q cd hbody
  have : bodyOf (hd.heap_39 w.params) 327 = some (body, scope, qual, cdv) := by unfold bodyOf; rw [ho]
  rw [this] at hbody
  injection hbody with e
  injection e with e1 e
  injection e with e2 e
  injection e with e3 e4
  subst e1; subst e2; subst e3; subst e4
  exact hb
def nums (ns : List Int) : List Int := ns.take 10 ++ [0, 0, 0].drop (ns.take 10).length
abbrev frm (l : List (Str × Value)) : Str → Option Value := fun y => List.lookup y l
def P5 (sl : Addr) (ns : List Int) (ps : Array Value) (m : Str → Option Value) (news : Led) : Prop := ∃ D F O ws ts, IntsAre ws (nums ns) ∧ @LT.lt Nat _ D F ∧ @LT.lt Nat _ F O ∧
  (m = fun y => if y = Str.ofString "octets" then some (.ref O) else if y = Str.ofString "firsts" then some (.ref F) else if y = Str.ofString "style" then some (.int ((nums ns).getD 0 0 % 4) ts) else if y = Str.ofString "numbers" then some (.ref D) else if y = Str.ofString "script" then some (.ref sl) else none) ∧
  news = [(O, listOf #[] 0), (F, listOf #[] 0), (D, listOf ws.toArray 0), (268, X.tableObj ps)]
/-- a walk's end, told of a smaller ledger and of another text of the frame -/
theorem post_of {Post : (Str → Option Value) → Led → Prop} {g : Heap} {L : Addr} {d : Drawn} {os : OsState} {h : Heap} {gn : Array GenState} {tk : Nat} {m m' : Str → Option Value} {news news' : Led} (F : Fr g L h m) (N : News g L h news) (G : AllBare gn) (hm : m = m') (hn : ∀ q ∈ news', q ∈ news) (hp : Post m' news') :
    PostQ Post g L d os .next ⟨h, gn, d, tk, os⟩ :=
  ⟨rfl, m', news', hm ▸ F, news_sub N hn, hp, G, rfl, rfl⟩
theorem fin5 {sl : Addr} {ns xs : List Int} {ps : Array Value} {D F O L : Addr} {ws : List Value} {ts : Tok} {rest : Led} {g h : Heap} {gn : Array GenState} {d : Drawn} {tk : Nat} {os : OsState} {m : Str → Option Value} (Fr' : Fr g L h m)
    (N : News g L h ((O, listOf #[] 0) :: (F, listOf #[] 0) :: (D, listOf ws.toArray 0) :: rest)) (h268 : (268, X.tableObj ps) ∈ rest) (hI : IntsAre ws xs) (hX : xs = nums ns) (h1 : @LT.lt Nat _ D F) (h2 : @LT.lt Nat _ F O) (hG : AllBare gn)
    (hm : m = fun y => if y = Str.ofString "octets" then some (.ref O) else if y = Str.ofString "firsts" then some (.ref F) else if y = Str.ofString "style" then some (.int ((nums ns).getD 0 0 % 4) ts) else if y = Str.ofString "numbers" then some (.ref D) else if y = Str.ofString "script" then some (.ref sl) else none) :
    PostQ (P5 sl ns ps) g L d os .next ⟨h, gn, d, tk, os⟩ :=
  post_of Fr' N hG hm (news' := [(O, listOf #[] 0), (F, listOf #[] 0), (D, listOf ws.toArray 0), (268, X.tableObj ps)]) (by
    intro q hq
    simp only [List.mem_cons, List.not_mem_nil, or_false] at hq
    rcases hq with rfl | rfl | rfl | rfl
    · exact .head _
    · exact .tail _ (.head _)
    · exact .tail _ (.tail _ (.head _))
    · exact .tail _ (.tail _ (.tail _ h268))) ⟨D, F, O, ws, ts, hX ▸ hI, h1, h2, rfl, rfl⟩
end
end
section
local macro_rules | `(tactic| walk_at "subscriptTail Name Slice ref ref") => `(tactic| ((with_reducible show wpAny _ _ (subscriptTail _ (PySem.Expr.Slice (some _) none none _) (Value.ref _) (Value.ref _)) _ _ _); k_dflt (refine' kmk_slice_ints ?F ?N ?l ?p ?q ?i ?m ?c ?_ ?s ?t ?z; (case F => k_asm); (case N => k_asm); (case l => kmk_list); (case p => kmk_part); (case q => kmk_part); (case i => (first | assumption | l_ints)); (case m => exact kmk_from (by (first | assumption | l_ints)) (by omega)); (case c => kmk_len); (case s => with_unfolding_all rfl); (case t => kmk_pure); (case z => first | (refine kmk_sz (by assumption) ?_; rw [sizeLine_eq]; (try simp only [List.length_append, List.length_take, List.length_drop]); omega) | exact Nat.le_of_ble_eq_true rfl)); intro D' ws' h' F' N' l1 hI' hC' hL'; (try k_lt l1)))
local macro_rules | `(tactic| walk_at "subscriptTail Name Slice ref ref") => `(tactic| ((with_reducible show wpAny _ _ (subscriptTail _ (PySem.Expr.Slice none (some _) none _) (Value.ref _) (Value.ref _)) _ _ _); k_dflt (refine' kmk_slice_ints ?F ?N ?l ?p ?q ?i ?m ?c ?_ ?s ?t ?z; (case F => k_asm); (case N => k_asm); (case l => kmk_list); (case p => kmk_part); (case q => kmk_part); (case i => (first | assumption | l_ints)); (case m => exact kmk_upto (by (first | assumption | l_ints)) (by omega)); (case c => kmk_len); (case s => with_unfolding_all rfl); (case t => kmk_pure); (case z => first | (refine kmk_sz (by assumption) ?_; rw [sizeLine_eq]; (try simp only [List.length_append, List.length_take, List.length_drop]); omega) | exact Nat.le_of_ble_eq_true rfl)); intro D' ws' h' F' N' l1 hI' hC' hL'; (try k_lt l1)))
local macro_rules | `(tactic| walk_at "subscriptTail Name Slice ref ref") => `(tactic| ((with_reducible show wpAny _ _ (subscriptTail _ (PySem.Expr.Slice (some _) (some _) none _) (Value.ref _) (Value.ref _)) _ _ _); k_dflt (refine' kmk_slice_ints ?F ?N ?l ?p ?q ?i ?m ?c ?_ ?s ?t ?z; (case F => k_asm); (case N => k_asm); (case l => kmk_list); (case p => kmk_part); (case q => kmk_part); (case i => (first | assumption | l_ints)); (case m => exact kmk_run (by (first | assumption | l_ints)) (by omega) (by omega)); (case c => kmk_len); (case s => with_unfolding_all rfl); (case t => kmk_pure); (case z => first | (refine kmk_sz (by assumption) ?_; rw [sizeLine_eq]; (try simp only [List.length_append, List.length_take, List.length_drop]); omega) | exact Nat.le_of_ble_eq_true rfl)); intro D' ws' h' F' N' l1 hI' hC' hL'; (try k_lt l1)))
local macro_rules | `(tactic| walk_at "call builtin:len") => `(tactic| ((with_reducible show wpAny _ _ (call (Value.builtin "len") [Value.ref _]) _ _ _); k_dflt (refine' Own.len_intsN ?n ?m ?i ?z ?_; (case n => k_asm); (case m => k_mem); (case i => assumption); (case z => ((try simp only [List.length_append, List.length_take, List.length_drop, List.length_cons, List.length_nil]); omega))); intro _ _))
local macro_rules | `(tactic| walk_at "binaryOp Add ref ref") => `(tactic| ((with_reducible show wpAny _ _ (binaryOp _ (Value.ref _) (Value.ref _)) _ _ _); k_dflt (refine' kmk_add_ints ?F ?N ?a ?b ?i ?j ?_ ?z; (case F => k_asm); (case N => k_asm); (case a => kmk_list); (case b => kmk_list); (case i => assumption); (case j => assumption); (case z => (rw [sizeLine_eq]; (try simp only [List.length_append, List.length_take, List.length_drop, List.length_cons, List.length_nil]); omega))); intro D' ws' h' F' N' l1 hI'; (try k_lt l1)))
section
variable {w : World} {mg mb : Str → Option Value} {bm : Addr} {ob : Obj}
theorem part1 (sl : Addr) (vs : List Value) (ns : List Int) (ps : Array Value) (hI : IntsAre vs ns) (hlen : ns.length ≤ 63) :
    Part w mg mb bm ob 0 5 (fun g => g.IsList sl vs.toArray) (fun m news => m = (fun y => List.lookup y [(Str.ofString "script", Value.ref sl)]) ∧ news = [(268, X.tableObj ps)]) (P5 sl ns ps) := by
  w_on
  delta Part
  k_fill
  refine' part_of ?ho ?hb; (case ho => k_is)
  intro dp un gd fa L outer A₀ base g h₁ gn d' tk os m news C hsl F N hpre hG hd' hu
  obtain ⟨rfl, rfl⟩ := hpre
  simp only [List.drop_succ_cons, List.drop_zero, List.take_succ_cons, List.take_zero]
  have X' := C.X
  have T' := C.T
  have B' := C.B
  have M' := C.M
  refine wpR_of ?_
  (try dsimp only)
  (try k_fold)
  k_steps
  have F9 := ‹Fr g L _ _›
  have N9 := ‹News g L _ _›
  refine' fin5 F9 N9 (by k_mem) ‹IntsAre _ (List.take _ _ ++ _)› (by simp only [nums, Int.toNat_natCast]; rfl) (by omega) (by omega) hG ?hm
  case hm =>
    rw [Int.fmod_eq_emod_of_nonneg _ (by decide)]
    funext y
    repeat' split
    all_goals (first | rfl | contradiction | skip)
    all_goals (first | (subst_vars; first | rfl | contradiction | (exfalso; simp_all; done)) | skip)
    all_goals (rename_i hne; simp only [List.lookup, beq_eq_false_iff_ne.mpr hne])
end
section
local macro_rules | `(tactic| walk_at "my_ne1") => `(tactic| ((try dsimp only); first | exact (by assumption : @Ne Nat _ _) | exact Ne.symm (by assumption : @Ne Nat _ _)))
local macro_rules | `(tactic| k_upd) => `(tactic| first | (refine' Upd.head ?a; (case a => (repeat (first | exact List.forall_mem_nil _ | refine List.forall_mem_cons.mpr ⟨by walk_at "my_ne1", ?_⟩)))) | (refine' Upd.tail ?a ?b; (case a => walk_at "my_ne1"); (case b => k_upd)))
local macro_rules | `(tactic| walk_at "call builtin:list.append") => `(tactic| (k_here; (with_reducible show wpAny _ _ (call (Value.builtin _) [Value.ref _, _]) _ _ _); k_dflt (refine' append_K ?k1 ?k2 ?k3 ?_ ?z; (case k1 => k_asm); (case k2 => k_asm); (case k3 => k_upd); (case z => (rw [sizeLine_eq]; (try simp only [List.size_toArray, Array.size_push]); omega)); k_whole); intro h' F' N'))
section
variable {w : World} {mg mb : Str → Option Value} {bm : Addr} {ob : Obj}
theorem gen_tok {α : Type} {M : Model} {A : Around} {t : Sem α} {Q : α → Shared → Prop} {E : Value → Shared → Prop} {h : Heap} {g : Array GenState} {d : Drawn} {X : Nat} {os : OsState} (H : ∀ tk, wpAny M A t Q E ⟨h, g, d, tk, os⟩) : wpAny M A t Q E ⟨h, g, d, X, os⟩ := H X
end
section
local macro_rules | `(tactic| walk_at "execs cons") => `(tactic| (k_here; (with_reducible show wpAny _ _ _ _ _ (Shared.mk _ _ _ (_ + 1 + 1 + 1 + 1 + 1) _)); with_reducible refine gen_tok ?_; intro tk))
local macro_rules | `(tactic| walk_at "execs nil") => `(tactic| (k_here; (with_reducible show wpAny _ _ _ _ _ (Shared.mk _ _ _ (_ + 1 + 1 + 1 + 1 + 1) _)); with_reducible refine gen_tok ?_; intro tk))
section
variable {w : World} {mg mb : Str → Option Value} {bm : Addr} {ob : Obj}
def firstOf (s k : Int) : Int := if s = 0 then (if k / 31 % 2 = 0 then 129 + k % 31 else 224 + k % 12) else if s = 1 then (if k / 5 % 2 = 0 then 161 + k % 10 else 176 + k % 75) else if s = 2 then 224 + k % 12 else k * 37 % 256
def pairOf (s k : Int) : List Int := [firstOf s k, 161 + (92 - k * 5) % 92]
def octs0 (ns : List Int) (i : Nat) : List Int := (((nums ns).drop 2).take i).flatMap (pairOf ((nums ns).getD 0 0 % 4))
def P6 (sl : Addr) (ns : List Int) (ps : Array Value) (m : Str → Option Value) (news : Led) : Prop := ∃ (D F O : Addr) (ws vf vo : List Value) (ts : Tok) (vn vfi : Option Value) (cF cO : Nat), IntsAre ws (nums ns) ∧ IntsAre vo (octs0 ns ((nums ns).length - 2)) ∧ vf.length = (nums ns).length - 2 ∧ @LT.lt Nat _ D F ∧ @LT.lt Nat _ F O ∧
  (m = fun y => if y = Str.ofString "first" then vfi else if y = Str.ofString "number" then vn else if y = Str.ofString "octets" then some (.ref O) else if y = Str.ofString "firsts" then some (.ref F) else if y = Str.ofString "style" then some (.int ((nums ns).getD 0 0 % 4) ts) else if y = Str.ofString "numbers" then some (.ref D) else if y = Str.ofString "script" then some (.ref sl) else none) ∧
  news = [(O, listOf vo.toArray cO), (F, listOf vf.toArray cF), (D, listOf ws.toArray 0), (268, X.tableObj ps)]
theorem nums_len (ns : List Int) : 3 ≤ (nums ns).length ∧ (nums ns).length ≤ 10 := by
  simp only [nums, List.length_append, List.length_take, List.length_drop, List.length_cons, List.length_nil]
  omega
theorem fm (a : Int) (n : Int) (h : 0 ≤ n) : a.fmod n = a % n := Int.fmod_eq_emod_of_nonneg a h
theorem fd (a : Int) (n : Int) (h : 0 ≤ n) : a.fdiv n = a / n := Int.fdiv_eq_ediv_of_nonneg a h
theorem fo_00 {s k : Int} (h0 : s = 0) (h : (k.fdiv 31).fmod 2 = 0) : 129 + k.fmod 31 = firstOf s k := by
  rw [fm _ _ (by decide), fd _ _ (by decide)] at h
  rw [fm _ _ (by decide)]
  unfold firstOf
  rw [if_pos h0, if_pos h]
theorem fo_01 {s k : Int} (h0 : s = 0) (h : (k.fdiv 31).fmod 2 = 1) : 224 + k.fmod 12 = firstOf s k := by
  rw [fm _ _ (by decide), fd _ _ (by decide)] at h
  rw [fm _ _ (by decide)]
  unfold firstOf
  rw [if_pos h0, if_neg (by omega)]
theorem fo_10 {s k : Int} (h0 : s ≠ 0) (h1 : s = 1) (h : (k.fdiv 5).fmod 2 = 0) : 161 + k.fmod 10 = firstOf s k := by
  rw [fm _ _ (by decide), fd _ _ (by decide)] at h
  rw [fm _ _ (by decide)]
  unfold firstOf
  rw [if_neg h0, if_pos h1, if_pos h]
theorem fo_11 {s k : Int} (h0 : s ≠ 0) (h1 : s = 1) (h : (k.fdiv 5).fmod 2 = 1) : 176 + k.fmod 75 = firstOf s k := by
  rw [fm _ _ (by decide), fd _ _ (by decide)] at h
  rw [fm _ _ (by decide)]
  unfold firstOf
  rw [if_neg h0, if_pos h1, if_neg (by omega)]
theorem fo_2 {s k : Int} (h0 : s ≠ 0) (h1 : s ≠ 1) (h2 : s = 2) : 224 + k.fmod 12 = firstOf s k := by
  rw [fm _ _ (by decide)]
  unfold firstOf
  rw [if_neg h0, if_neg h1, if_pos h2]
theorem fo_3 {s k : Int} (h0 : s ≠ 0) (h1 : s ≠ 1) (h2 : s ≠ 2) : (k * 37).fmod 256 = firstOf s k := by
  rw [fm _ _ (by decide)]
  unfold firstOf
  rw [if_neg h0, if_neg h1, if_neg h2]
theorem octs0_succ {ns : List Int} {i : Nat} {k : Int} (h : ((nums ns).drop 2)[i]? = some k) : octs0 ns (i + 1) = octs0 ns i ++ pairOf ((nums ns).getD 0 0 % 4) k := by
  unfold octs0
  rw [List.take_succ, h, List.flatMap_append]
  simp
theorem octs0_len (ns : List Int) : ∀ i, i ≤ ((nums ns).drop 2).length → (octs0 ns i).length = 2 * i
  | 0, _ => by simp [octs0]
  | i + 1, h => by
    rw [octs0_succ (List.getElem?_eq_getElem (by omega)), List.length_append, octs0_len ns i (by omega)]
    simp [pairOf]; omega
/-- the statement that chooses the first octet -/
def FirstQ (g : Heap) (L : Addr) (d : Drawn) (os : OsState) (gn : Array GenState) (c : Int) (m₀ : Str → Option Value) (news : Led) (f : Flow) (s' : Shared) : Prop :=
  f = .next ∧ ∃ h t tk, s' = ⟨h, gn, d, tk, os⟩ ∧ Fr g L h (fun y => if y = Str.ofString "first" then some (.int c t) else m₀ y) ∧ News g L h news
theorem first_mk {g h : Heap} {L : Addr} {d : Drawn} {os : OsState} {gn : Array GenState} {e c : Int} {m₀ : Str → Option Value} {news news' : Led} {t : Tok} {tk : Nat} (F : Fr g L h (fun y => if y = Str.ofString "first" then some (.int e t) else m₀ y)) (N : News g L h news')
    (hn : ∀ q ∈ news, q ∈ news') (he : e = c) : FirstQ g L d os gn c m₀ news .next ⟨h, gn, d, tk, os⟩ := ⟨rfl, h, t, tk, rfl, he ▸ F, news_sub N hn⟩
theorem step_first {A : Around} {env : Env} {st : Stmt} {rest : List Stmt} {Q : Flow → Shared → Prop} {E : Value → Shared → Prop} {g h3 : Heap} {L : Addr} {d : Drawn} {os : OsState} {gn : Array GenState} {c : Int} {m₀ : Str → Option Value} {news : Led} {tk3 : Nat} {M : Model} (_ : Fr g L h3 m₀) (_ : News g L h3 news)
    (h1 : wpAny M A (exec st env) (FirstQ g L d os gn c m₀ news) (fun _ _ => False) ⟨h3, gn, d, tk3, os⟩)
    (h2 : ∀ h t tk, Fr g L h (fun y => if y = Str.ofString "first" then some (.int c t) else m₀ y) → News g L h news → wpR M A (execs rest env) Q E ⟨h, gn, d, tk, os⟩) : wpR M A (execs (st :: rest) env) Q E ⟨h3, gn, d, tk3, os⟩ :=
  wpR_execs_cons (wpR_mono (wpR_of h1) (fun f s' ⟨hf, h, t, tk, hs, F, N⟩ => by subst hf; subst hs; exact h2 h t tk F N) (fun _ _ z => z.elim))
def J2 (ns : List Int) (D2 O FF D : Addr) (ws2 ws : List Value) (ps : Array Value) (i : Nat) (nw : Led) : Prop := ∃ (vf vo : List Value) (cF cO : Nat), vf.length = i ∧ IntsAre vo (octs0 ns i) ∧ nw = [(D2, listOf ws2.toArray 0), (O, listOf vo.toArray cO), (FF, listOf vf.toArray cF), (D, listOf ws.toArray 0), (268, X.tableObj ps)]
theorem turn2_mk {ns : List Int} {g h : Heap} {L I D2 O FF D x : Addr} {ox : Obj} {ws2 ws vf vo : List Value} {ps : Array Value} {i cF cO cF' c8 : Nat} {m₀ m₂ : Str → Option Value} {d : Drawn} {os : OsState} {gn : Array GenState} {tk : Nat} {a b : Int} {ta tb : Tok} {v1 : Value} (F : Fr g L h m₂)
    (N : News g L h ((x, ox) :: (I, liObj D2 (i + 1)) :: (D2, listOf ws2.toArray 0) :: (O, listOf (vo ++ [Value.int a ta, Value.int b tb]).toArray c8) :: (FF, listOf (vf.toArray.push v1) cF') :: (D, listOf ws.toArray 0) :: [(268, X.tableObj ps)]))
    (hvf : vf.length = i) (hvo : IntsAre vo (octs0 ns i)) (hO : octs0 ns (i + 1) = octs0 ns i ++ [a, b]) (hm : ∀ y, y ≠ Str.ofString "number" → [Str.ofString "first"].contains y = false → m₂ y = m₀ y)
    (hap : ∀ q ∈ [(D2, listOf ws2.toArray 0), (O, listOf vo.toArray cO), (FF, listOf vf.toArray cF), (D, listOf ws.toArray 0), (268, X.tableObj ps)], q.1 ≠ I) (hG : AllBare gn) :
    Turned g L I (liObj D2 (i + 1)) (Str.ofString "number") [Str.ofString "first"] m₀ (J2 ns D2 O FF D ws2 ws ps (i + 1)) d os ⟨h, gn, d, tk, os⟩ := by
  refine ⟨m₂, [(D2, listOf ws2.toArray 0), (O, listOf (vo ++ [Value.int a ta, Value.int b tb]).toArray c8), (FF, listOf (vf ++ [v1]).toArray cF'), (D, listOf ws.toArray 0), (268, X.tableObj ps)], ⟨vf ++ [v1], _, cF', c8, by simp [hvf], ?_, rfl⟩, hm, ?_, F, ?_, hG, rfl, rfl⟩
  · rw [hO]; exact hvo.append (.cons _ _ (.cons _ _ .nil))
  · intro q hq
    simp only [List.mem_cons, List.not_mem_nil, or_false] at hq
    rcases hq with rfl | rfl | rfl | rfl | rfl
    · exact hap _ (.head _)
    · exact hap (O, listOf vo.toArray cO) (.tail _ (.head _))
    · exact hap (FF, listOf vf.toArray cF) (.tail _ (.tail _ (.head _)))
    · exact hap _ (.tail _ (.tail _ (.tail _ (.head _))))
    · exact hap _ (.tail _ (.tail _ (.tail _ (.tail _ (.head _)))))
  · rw [List.push_toArray] at N
    exact Own.news_tl N
theorem part2 (sl : Addr) (ns : List Int) (ps : Array Value) : Part w mg mb bm ob 5 1 (fun _ => True) (P5 sl ns ps) (P6 sl ns ps) := by
  w_on
  delta Part
  k_fill
  refine' part_of ?ho ?hb; (case ho => k_is)
  intro dp un gd fa L outer A₀ base g h₁ gn d' tk os m news C _ F N hpre hG hd' hu
  obtain ⟨D, FF, O, ws, ts, hI, hDF, hFO, rfl, rfl⟩ := hpre
  simp only [List.drop_succ_cons, List.drop_zero, List.take_succ_cons, List.take_zero]
  have X' := C.X
  have T' := C.T
  have B' := C.B
  have M' := C.M
  have hln := nums_len ns
  refine wpR_execs_cons (wpR_For ?_)
  (try k_fold)
  k_steps
  have F1 := ‹Fr g L _ _›
  have N1 := ‹News g L _ _›
  have hI2 := ‹IntsAre _ (List.drop _ _)›
  have hlw := hI2.length
  rename_i D2 ws2 _ _ _ _ _ _ _
  dsimp only
  refine wpAny_pyIter_list (Own.isList_of (N1 (_, _) (.head _)).1) ?_
  have F2 := keep_fr F1 (h' := _) fun b' o e => Heap.get?_push_of_some (liObj D2 0) e
  have N2 := news_fresh F1 N1 (fun b' o e => Heap.get?_push_of_some (liObj D2 0) e) (Heap.get?_push_size _ rfl)
  have hap := fun (q : Addr × Obj) hq => Nat.ne_of_lt (Heap.lt_size (N1 q hq).1)
  refine forS (n := ws2.toArray.size) (ob := fun i => liObj D2 i) [Str.ofString "first"] (Steps.list rfl _ D2 ws2.toArray 0) rfl rfl
      (J2 ns D2 O FF D ws2 ws ps)
      ?_ F2 (news := _) N2 hap hG ⟨[], [], 0, 0, rfl, IntsAre.nil, rfl⟩ ?_ ?_
  · rintro i nw h ⟨vf, vo, cF, cO, _, _, rfl⟩ N
    exact (N _ (.head _)).1
  · rintro i v u news₁ h3 tk3 gn3 hi hv ⟨vf, vo, cF, cO, hvf, hvo, rfl⟩ hap3 F3 N3 hG3
    dsimp only at N3 F3
    have hi' : i < ((nums ns).drop 2).length := by
      have h1 : ws2.length = ((nums ns).drop 2).length := hlw
      rw [← h1]; simpa using hi
    have hi8 : i < 8 := by
      have := hi'
      simp only [List.length_drop] at this
      omega
    have hlen2 := octs0_len ns i (Nat.le_of_lt hi')
    obtain ⟨k, tv, hk, rfl⟩ : ∃ k tv, ((nums ns).drop 2)[i]? = some k ∧ v = .int k tv := by
      obtain ⟨tv, e⟩ := hI2.get i _ (List.getElem?_eq_getElem hi')
      have : ws2[i]? = some v := by simpa using hv
      rw [e] at this
      exact ⟨_, tv, List.getElem?_eq_getElem hi', (Option.some.inj this).symm⟩
    have hO' := octs0_succ hk
    have hFO2 : @Ne Nat FF O := Nat.ne_of_lt hFO
    have hDO2 : @Ne Nat D O := Nat.ne_of_lt (Nat.lt_trans hDF hFO)
    have hDF2 : @Ne Nat D FF := Nat.ne_of_lt hDF
    have hFI : @Ne Nat FF _ := hap3 (FF, _) (.tail _ (.tail _ (.head _)))
    have hOI : @Ne Nat O _ := hap3 (O, _) (.tail _ (.head _))
    have hFD2 : @Ne Nat FF D2 := by omega
    have hOD2 : @Ne Nat O D2 := by omega
    have hF8 := news_ne N3 (a := FF) (b := 268) (by k_mem) (by k_mem) (by intro h; cases h)
    have hO8 := news_ne N3 (a := O) (b := 268) (by k_mem) (by k_mem) (by intro h; cases h)
    have hs4 : 0 ≤ (nums ns).getD 0 0 % 4 ∧ (nums ns).getD 0 0 % 4 < 4 := by omega
    generalize hs : (nums ns).getD 0 0 % 4 = sty at *
    refine step_first (c := firstOf sty k) F3 N3 ?_ fun h5 t5 tk5 F5 N5 => ?_
    · (try k_fold)
      k_steps
      all_goals (refine first_mk ‹Fr g L _ _› ‹News g L _ _› (by walk_at "my_mems") ?_)
      all_goals (first | exact fo_00 (by assumption) (by assumption) | exact fo_01 (by assumption) (by assumption) | exact fo_10 (by assumption) (by assumption) (by assumption) | exact fo_11 (by assumption) (by assumption) (by assumption) | exact fo_2 (by assumption) (by assumption) (by assumption) | exact fo_3 (by assumption) (by assumption) (by assumption))
    · refine wpR_of ?_
      (try k_fold)
      k_steps
      have F9 := ‹Fr g L _ _›
      have N9 : News g L _ ((_, listOf #[Value.int (firstOf sty k) t5, Value.int _ _] 0) :: (_, liObj D2 (i + 1)) :: (D2, listOf ws2.toArray 0) :: (O, listOf vo.toArray cO) :: (FF, listOf (vf.toArray.push (Value.int (firstOf sty k) t5)) (cF + 1)) :: (D, listOf ws.toArray 0) :: [(268, X.tableObj ps)]) := ‹News g L _ _›
      refine Own.iadd_listN (zs := [_, _]) F9 N9 (.head _) (fun c' => .tail ?_ (.tail ?_ (.tail ?_ (.head ?_)))) ?_ ?_
      · show @Ne Nat _ _; omega
      · exact Ne.symm hOI
      · show @Ne Nat _ _; omega
      · repeat (first | exact List.forall_mem_nil _ | refine List.forall_mem_cons.mpr ⟨by (show @Ne Nat _ _; omega), ?_⟩)
      · have := hvo.length
        simp only [List.length_cons, List.length_nil]
        omega
      · intro h8 c8 F8 N8
        (try k_fold)
        k_steps
        refine turn2_mk ‹Fr g L _ _› ‹News g L _ _› hvf hvo ?_ ?_ hap3 hG3
        · rw [hO', pairOf, fm _ _ (by decide)]
        · intro y h1 h2
          have h3 : y ≠ Str.ofString "first" := by rintro rfl; simp at h2
          by_cases h4 : y = Str.ofString "octets"
          · simp only [h4, if_true]
          · simp only [if_neg h1, if_neg h3, if_neg h4, h2, Bool.false_eq_true, if_false]
  · intro u news' h4 tk4 gn4 hJ4 F4 N4 hG4
    obtain ⟨vf, vo, cF, cO, hvf, hvo, rfl⟩ := hJ4
    have hn2 : ws2.toArray.size = (nums ns).length - 2 := by
      have h1 : ws2.length = ((nums ns).drop 2).length := hlw
      rw [List.size_toArray, h1, List.length_drop]
    rw [hn2] at hvf hvo
    repeat (refine wpR_execs_nil ?_; (try dsimp only))
    refine post_of F4 N4 hG4 (news' := [(O, listOf vo.toArray cO), (FF, listOf vf.toArray cF), (D, listOf ws.toArray 0), (268, X.tableObj ps)]) ?_ (fun q hq => .tail _ hq) ⟨D, FF, O, ws, vf, vo, ts, u (Str.ofString "number"), u (Str.ofString "first"), cF, cO, hI, hvo, hvf, hDF, hFO, rfl, rfl⟩
    funext y
    by_cases h1 : y = Str.ofString "first"
    · subst h1; rfl
    · by_cases h2 : y = Str.ofString "number"
      · subst h2; rfl
      · have h3 : [Str.ofString "first"].contains y = false := by simp [h1]
        simp only [if_neg h1, if_neg h2, h3, Bool.false_eq_true, if_false]
end
end
section
local macro_rules | `(tactic| walk_at "call builtin:len") => `(tactic| ((with_reducible show wpAny _ _ (call (Value.builtin "len") [Value.ref _]) _ _ _); k_dflt (refine' Own.len_listN ?n ?m ?z ?_; (case n => k_asm); (case m => k_mem); (case z => ((try simp only [List.size_toArray]); omega))); intro _ _))
local macro_rules | `(tactic| walk_at "subscriptTail") => `(tactic| ((with_reducible show wpAny _ _ (subscriptTail (Expr.List _ _) _ (Value.ref _) (Value.int _ _)) _ _ _); k_dflt (refine' Own.item_intsN ?n ?m ?i ?a ?b ?c ?_ ?s; (case n => k_asm); (case m => k_mem); (case i => l_ints); (case a => (rw [fm _ _ (by decide)]; omega)); (case b => (simp only [List.length_cons, List.length_nil]; rw [fm _ _ (by decide)]; omega)); (case c => (simp only [List.length_cons, List.length_nil]; omega)); (case s => with_unfolding_all rfl)); intro _))
local macro_rules | `(tactic| walk_at "setItem ref int") => `(tactic| ((with_reducible show wpAny _ _ (setItem (Value.ref _) (Value.int _ _) _) _ _ _); k_dflt (refine' Own.set_listN ?F ?N ?a ?b ?U ?z ?_; (case F => k_asm); (case N => k_asm); (case a => assumption); (case b => assumption); (case U => k_upd); (case z => assumption)); intro h' F' N'))
section
variable {w : World} {mg mb : Str → Option Value} {bm : Addr} {ob : Obj}
def patch (v : Int) : Int := [128, 160, 161, 170, 171, 175, 235, 251].getD (v / 4 % 8).toNat 0
def octs1 (ns : List Int) : List Int := if (nums ns).getD 1 0 % 4 = 0 then (octs0 ns ((nums ns).length - 2)).set (2 * ((nums ns).getD 1 0 / 32 % (((nums ns).length - 2 : Nat) : Int))).toNat (patch ((nums ns).getD 1 0)) else octs0 ns ((nums ns).length - 2)
def P7 (sl : Addr) (ns : List Int) (ps : Array Value) (m : Str → Option Value) (news : Led) : Prop := ∃ (D F O : Addr) (ws vf vo : List Value) (ts : Tok) (vn vfi : Option Value) (cF cO : Nat), IntsAre ws (nums ns) ∧ IntsAre vo (octs1 ns) ∧ vf.length = (nums ns).length - 2 ∧ @LT.lt Nat _ D F ∧ @LT.lt Nat _ F O ∧
  (m = fun y => if y = Str.ofString "first" then vfi else if y = Str.ofString "number" then vn else if y = Str.ofString "octets" then some (.ref O) else if y = Str.ofString "firsts" then some (.ref F) else if y = Str.ofString "style" then some (.int ((nums ns).getD 0 0 % 4) ts) else if y = Str.ofString "numbers" then some (.ref D) else if y = Str.ofString "script" then some (.ref sl) else none) ∧
  news = [(O, listOf vo.toArray cO), (F, listOf vf.toArray cF), (D, listOf ws.toArray 0), (268, X.tableObj ps)]
theorem ints_set : ∀ {vs : List Value} {ns : List Int} (k : Nat) (n : Int) (t : Tok), IntsAre vs ns → IntsAre (vs.set k (.int n t)) (ns.set k n)
  | _, _, _, _, _, .nil => .nil
  | _, _, 0, n, t, .cons _ _ h => .cons n t h
  | _, _, k + 1, n, t, .cons a u h => .cons a u (ints_set k n t h)
theorem octs1_yes {ns : List Int} {z : Nat} (h : ((nums ns).getD (Int.toNat 1) 0).fmod 4 = 0) (hz : z = (nums ns).length - 2) {vo : List Value} {t : Tok} (hvo : IntsAre vo (octs0 ns ((nums ns).length - 2))) :
    IntsAre (vo.set (2 * (((nums ns).getD (Int.toNat 1) 0).fdiv 32).fmod (z : Int)).toNat (Value.int ([128, 160, 161, 170, 171, 175, 235, 251].getD ((((nums ns).getD (Int.toNat 1) 0).fdiv 4).fmod 8).toNat 0) t)) (octs1 ns) := by
  subst hz
  rw [fm _ _ (by decide)] at h
  unfold octs1
  rw [if_pos (show (nums ns).getD 1 0 % 4 = 0 from h), fm _ _ (Int.natCast_nonneg _), fd _ _ (by decide), fm _ _ (by decide), fd _ _ (by decide)]
  exact ints_set _ _ _ hvo
theorem octs1_no {ns : List Int} (h : ((nums ns).getD (Int.toNat 1) 0).fmod 4 ≠ 0) {vo : List Value} (hvo : IntsAre vo (octs0 ns ((nums ns).length - 2))) : IntsAre vo (octs1 ns) := by
  rw [fm _ _ (by decide)] at h
  unfold octs1
  rw [if_neg (show ¬ (nums ns).getD 1 0 % 4 = 0 from h)]
  exact hvo
theorem part3 (sl : Addr) (ns : List Int) (ps : Array Value) : Part w mg mb bm ob 6 1 (fun _ => True) (P6 sl ns ps) (P7 sl ns ps) := by
  w_on
  delta Part
  k_fill
  refine' part_of ?ho ?hb; (case ho => k_is)
  intro dp un gd fa L outer A₀ base g h₁ gn d' tk os m news C _ F N hpre hG hd' hu
  obtain ⟨D, FF, O, ws, vf, vo, ts, vn, vfi, cF, cO, hI, hvo, hvf, hDF, hFO, rfl, rfl⟩ := hpre
  simp only [List.drop_succ_cons, List.drop_zero, List.take_succ_cons, List.take_zero]
  have X' := C.X
  have T' := C.T
  have B' := C.B
  have M' := C.M
  have hln := nums_len ns
  have hFO2 : @Ne Nat FF O := Nat.ne_of_lt hFO
  have hDO2 : @Ne Nat D O := Nat.ne_of_lt (Nat.lt_trans hDF hFO)
  have hO8 := news_ne N (a := O) (b := 268) (by k_mem) (by k_mem) (by intro h; cases h)
  have hvl : vo.length = 2 * ((nums ns).length - 2) := by rw [hvo.length, octs0_len ns _ (by rw [List.length_drop]; exact Nat.le_refl _)]
  have hvz : vo.length < 1000000 := by omega
  have hfs : vf.toArray.size = (nums ns).length - 2 := by rw [List.size_toArray, hvf]
  have hfp : (0 : Int) < ((vf.toArray.size : Nat) : Int) := by omega
  have hb1 : 0 ≤ 2 * (((nums ns).getD (Int.toNat 1) 0).fdiv 32).fmod ((vf.toArray.size : Nat) : Int) := by
    rw [fm _ _ (Int.le_of_lt hfp)]
    have := Int.emod_nonneg (((nums ns).getD (Int.toNat 1) 0).fdiv 32) (Int.ne_of_gt hfp)
    omega
  have hb2 : 2 * (((nums ns).getD (Int.toNat 1) 0).fdiv 32).fmod ((vf.toArray.size : Nat) : Int) < (vo.length : Int) := by
    rw [fm _ _ (Int.le_of_lt hfp)]
    have := Int.emod_lt_of_pos (((nums ns).getD (Int.toNat 1) 0).fdiv 32) hfp
    omega
  refine wpR_of ?_
  (try k_fold)
  k_steps
  · have F9 := ‹Fr g L _ _›
    have N9 : News g L _ ((_, _) :: (O, listOf (vo.set _ _).toArray cO) :: (FF, listOf vf.toArray cF) :: (D, listOf ws.toArray 0) :: [(268, X.tableObj ps)]) := ‹News g L _ _›
    exact post_of F9 (Own.news_tl N9) hG rfl (fun q hq => hq) ⟨D, FF, O, ws, vf, _, ts, vn, vfi, cF, cO, hI, octs1_yes (by assumption) hfs hvo, hvf, hDF, hFO, rfl, rfl⟩
  · exact post_of ‹Fr g L _ _› N hG rfl (fun q hq => hq) ⟨D, FF, O, ws, vf, vo, ts, vn, vfi, cF, cO, hI, octs1_no (by assumption) hvo, hvf, hDF, hFO, rfl, rfl⟩
end
end
section
local macro_rules | `(tactic| walk_at "execs cons") => `(tactic| (k_here; (with_reducible show wpAny _ _ _ _ _ (Shared.mk _ _ _ (_ + 1 + 1 + 1 + 1 + 1) _)); with_reducible refine gen_tok ?_; intro tk))
local macro_rules | `(tactic| walk_at "execs nil") => `(tactic| (k_here; (with_reducible show wpAny _ _ _ _ _ (Shared.mk _ _ _ (_ + 1 + 1 + 1 + 1 + 1) _)); with_reducible refine gen_tok ?_; intro tk))
section
variable {w : World} {mg mb : Str → Option Value} {bm : Addr} {ob : Obj}
def kOk (o : List Int) (j : Nat) : Bool := (128 < o.getD (2 * j) 0 && o.getD (2 * j) 0 < 160) || (223 < o.getD (2 * j) 0 && o.getD (2 * j) 0 < 235) || (o.getD (2 * j) 0 == 235 && o.getD (2 * j + 1) 0 < 192)
def hOk (o : List Int) (j : Nat) : Bool := (160 < o.getD (2 * j) 0 && o.getD (2 * j) 0 < 171) || (175 < o.getD (2 * j) 0 && o.getD (2 * j) 0 < 251)
def kFl (o : List Int) (i : Nat) : Bool := (List.range i).all (kOk o)
def hFl (o : List Int) (i : Nat) : Bool := (List.range i).all (hOk o)
theorem kFl_succ (o : List Int) (i : Nat) : kFl o (i + 1) = (kFl o i && kOk o i) := by simp [kFl, List.range_succ]
theorem hFl_succ (o : List Int) (i : Nat) : hFl o (i + 1) = (hFl o i && hOk o i) := by simp [hFl, List.range_succ]
def FlagQ (name : Str) (b' : Bool) (g : Heap) (L : Addr) (d : Drawn) (os : OsState) (gn : Array GenState) (m₀ : Str → Option Value) (news : Led) (f : Flow) (s' : Shared) : Prop :=
  f = .next ∧ ∃ h tk, s' = ⟨h, gn, d, tk, os⟩ ∧ Fr g L h (fun y => if y = name then some (.bool b') else m₀ y) ∧ News g L h news
theorem fr_eq {g h : Heap} {L : Addr} {m m' : Str → Option Value} (F : Fr g L h m) (e : m = m') : Fr g L h m' := e ▸ F
theorem flag_set {name : Str} {b' : Bool} {g h : Heap} {L : Addr} {d : Drawn} {os : OsState} {gn : Array GenState} {m₀ : Str → Option Value} {news : Led} {tk : Nat} (F : Fr g L h (fun y => if y = name then some (.bool false) else m₀ y)) (N : News g L h news) (hb : b' = false) :
    FlagQ name b' g L d os gn m₀ news .next ⟨h, gn, d, tk, os⟩ := by subst hb; exact ⟨rfl, h, tk, rfl, F, N⟩
theorem flag_keep {name : Str} {b' : Bool} {g h : Heap} {L : Addr} {d : Drawn} {os : OsState} {gn : Array GenState} {m₀ : Str → Option Value} {news : Led} {tk : Nat} (F : Fr g L h m₀) (N : News g L h news) (hm : m₀ name = some (.bool b')) :
    FlagQ name b' g L d os gn m₀ news .next ⟨h, gn, d, tk, os⟩ := by
  refine ⟨rfl, h, tk, rfl, ?_, N⟩
  have : (fun y => if y = name then some (Value.bool b') else m₀ y) = m₀ := by
    funext y
    by_cases h : y = name
    · rw [if_pos h, h, hm]
    · rw [if_neg h]
  rw [this]; exact F
theorem step_flag {A : Around} {env : Env} {st : Stmt} {rest : List Stmt} {Q : Flow → Shared → Prop} {E : Value → Shared → Prop} {g h3 : Heap} {L : Addr} {d : Drawn} {os : OsState} {gn : Array GenState} (name : Str) (b' : Bool) {m₀ : Str → Option Value} {news : Led} {tk3 : Nat} {M : Model} (_ : Fr g L h3 m₀) (_ : News g L h3 news)
    (h1 : wpAny M A (exec st env) (FlagQ name b' g L d os gn m₀ news) (fun _ _ => False) ⟨h3, gn, d, tk3, os⟩)
    (h2 : ∀ h tk, Fr g L h (fun y => if y = name then some (.bool b') else m₀ y) → News g L h news → wpR M A (execs rest env) Q E ⟨h, gn, d, tk, os⟩) : wpR M A (execs (st :: rest) env) Q E ⟨h3, gn, d, tk3, os⟩ :=
  wpR_execs_cons (wpR_mono (wpR_of h1) (fun f s' ⟨hf, h, tk, hs, F, N⟩ => by subst hf; subst hs; exact h2 h tk F N) (fun _ _ z => z.elim))
abbrev m10 (sl D F O : Addr) (st : Int) (ts : Tok) (vn vfi vpl : Option Value) (kb hb : Bool) : Str → Option Value := fun y => if y = Str.ofString "place" then vpl else if y = Str.ofString "first" then vfi else if y = Str.ofString "hanzi" then some (.bool hb) else if y = Str.ofString "kanji" then some (.bool kb) else if y = Str.ofString "number" then vn else if y = Str.ofString "octets" then some (.ref O) else if y = Str.ofString "firsts" then some (.ref F) else if y = Str.ofString "style" then some (.int st ts) else if y = Str.ofString "numbers" then some (.ref D) else if y = Str.ofString "script" then some (.ref sl) else none
def P10 (sl : Addr) (ns : List Int) (ps : Array Value) (m : Str → Option Value) (news : Led) : Prop := ∃ (D F O : Addr) (ws vf vo : List Value) (ts : Tok) (vn vfi vpl : Option Value) (cF cO : Nat), IntsAre ws (nums ns) ∧ IntsAre vo (octs1 ns) ∧ vf.length = (nums ns).length - 2 ∧ @LT.lt Nat _ D F ∧ @LT.lt Nat _ F O ∧
  m = m10 sl D F O ((nums ns).getD 0 0 % 4) ts vn vfi vpl (kFl (octs1 ns) ((nums ns).length - 2)) (hFl (octs1 ns) ((nums ns).length - 2)) ∧
  news = [(O, listOf vo.toArray cO), (F, listOf vf.toArray cF), (D, listOf ws.toArray 0), (268, X.tableObj ps)]
theorem end4 {sl D F O : Addr} {st : Int} {ts : Tok} {vn vfi vpl fv pv : Option Value} {kb hb kb' hb' : Bool} {g h : Heap} {L : Addr}
    (F7 : Fr g L h (fun y => if y = Str.ofString "hanzi" then some (.bool hb') else if y = Str.ofString "kanji" then some (.bool kb') else if y = Str.ofString "first" then fv else if y = Str.ofString "place" then pv else m10 sl D F O st ts vn vfi vpl kb hb y)) : Fr g L h (m10 sl D F O st ts vn fv pv kb' hb') := by
  refine fr_eq F7 ?_
  funext y
  by_cases c1 : y = Str.ofString "place"
  · subst c1; rfl
  · by_cases c2 : y = Str.ofString "first"
    · subst c2; rfl
    · simp only [m10, if_neg c1, if_neg c2]
      by_cases c3 : y = Str.ofString "hanzi"
      · simp only [if_pos c3]
      · by_cases c4 : y = Str.ofString "kanji"
        · simp only [if_neg c3, if_pos c4]
        · simp only [if_neg c3, if_neg c4]
theorem octs1_len (ns : List Int) : (octs1 ns).length = 2 * ((nums ns).length - 2) := by
  unfold octs1
  split
  · rw [List.length_set, octs0_len ns _ (by rw [List.length_drop]; exact Nat.le_refl _)]
  · exact octs0_len ns _ (by rw [List.length_drop]; exact Nat.le_refl _)
theorem part4 (sl : Addr) (ns : List Int) (ps : Array Value) : Part w mg mb bm ob 7 3 (fun _ => True) (P7 sl ns ps) (P10 sl ns ps) := by
  w_on
  delta Part
  k_fill
  refine' part_of ?ho ?hb; (case ho => k_is)
  intro dp un gd fa L outer A₀ base g h₁ gn d' tk os m news C _ F N hpre hG hd' hu
  obtain ⟨D, FF, O, ws, vf, vo, ts, vn, vfi, cF, cO, hI, hvo, hvf, hDF, hFO, rfl, rfl⟩ := hpre
  simp only [List.drop_succ_cons, List.drop_zero, List.take_succ_cons, List.take_zero]
  have X' := C.X
  have T' := C.T
  have B' := C.B
  have M' := C.M
  have hln := nums_len ns
  have hvl : vo.length = 2 * ((nums ns).length - 2) := by rw [hvo.length, octs1_len]
  have hol := octs1_len ns
  refine wpR_execs_app (l₁ := [_, _]) (l₂ := [_]) ?_
  (try k_fold)
  k_steps
  refine wpR_execs_cons (wpR_For ?_)
  (try k_fold)
  k_steps
  have F0 := ‹Fr g L _ _›
  have N1 := ‹News g L _ [(O, _), _, _, _]›
  have hr := ‹IsRange _ _ 0 _ 2 _ _ _›
  refine wpAny_pyIter_range hr (by rw [hol]; exact small2 _ (by omega)) ?_
  rw [hol, size2 _ (by omega)]
  generalize hn : (nums ns).length - 2 = n at *
  have hn8 : 1 ≤ n ∧ n ≤ 8 := by omega
  have F1 := fr_eq F0 (m' := m10 sl D FF O ((nums ns).getD 0 0 % 4) ts vn vfi none (kFl (octs1 ns) 0) (hFl (octs1 ns) 0)) (by
    funext y
    dsimp only [m10]
    repeat' split
    all_goals (first | rfl | contradiction | (subst_vars; first | rfl | contradiction | (exfalso; simp_all; done))))
  have F2 := keep_fr F1 (h' := _) fun b' o e => Heap.get?_push_of_some (riObj 0 n 2) e
  have N2 := news_fresh F1 N1 (fun b' o e => Heap.get?_push_of_some (riObj 0 n 2) e) (Heap.get?_push_size _ rfl)
  have hap := fun (q : Addr × Obj) hq => Nat.ne_of_lt (Heap.lt_size (N1 q hq).1)
  refine forR (n := n) (ob := fun i => riObj (0 + (i : Nat) * 2) ((n : Int) - (i : Nat)) 2) (Steps.range rfl _ 0 2 n) trivial rfl rfl
      (fun i m₁ nw => ∃ vfi vpl, m₁ = m10 sl D FF O ((nums ns).getD 0 0 % 4) ts vn vfi vpl (kFl (octs1 ns) i) (hFl (octs1 ns) i) ∧ nw = [(O, listOf vo.toArray cO), (FF, listOf vf.toArray cF), (D, listOf ws.toArray 0), (268, X.tableObj ps)])
      (fun _ _ _ _ _ _ => trivial) F2 (by simpa using N2) hap hG ⟨vfi, none, rfl, rfl⟩ ?_ ?_
  · rintro i v m₁ news₁ h3 tk3 gn3 hi ⟨t', rfl⟩ ⟨vfi', vpl', rfl, rfl⟩ hap3 F3 N3 hG3
    dsimp only [m10] at N3 F3
    (try k_fold)
    refine wpR_execs_app (l₁ := [_]) (l₂ := [_, _]) ?_
    (try k_fold)
    k_steps
    have F5 := ‹Fr g L _ _›
    have N5 := ‹News g L _ _›
    have e1 : (0 + (i : Int) * 2).toNat = 2 * i := by omega
    have e2 : (0 + (i : Int) * 2 + 1).toNat = 2 * i + 1 := by omega
    obtain ⟨f, hf⟩ : ∃ f, f = (octs1 ns).getD (0 + (i : Int) * 2).toNat 0 := ⟨_, rfl⟩
    obtain ⟨s2, hs2⟩ : ∃ f, f = (octs1 ns).getD (0 + (i : Int) * 2 + 1).toNat 0 := ⟨_, rfl⟩
    have hkT : kOk (octs1 ns) i = true ↔ ((128 < f ∧ f < 160) ∨ (223 < f ∧ f < 235) ∨ (f = 235 ∧ s2 < 192)) := by
      rw [hf, hs2, e1, e2]
      simp only [kOk, Bool.or_eq_true, Bool.and_eq_true, decide_eq_true_eq, beq_iff_eq, or_assoc]
    have hhT : hOk (octs1 ns) i = true ↔ ((160 < f ∧ f < 171) ∨ (175 < f ∧ f < 251)) := by
      rw [hf, e1]
      simp only [hOk, Bool.or_eq_true, Bool.and_eq_true, decide_eq_true_eq]
    refine step_flag (Str.ofString "kanji") (kFl (octs1 ns) (i + 1)) F5 N5 ?_ fun h6 tk6 F6 N6 => ?_
    · rw [kFl_succ]
      (try k_fold)
      k_steps
      all_goals (first
        | (refine flag_set (by assumption) (by assumption) ?_; have hq : ¬ kOk (octs1 ns) i = true := (by (rw [hkT]; omega)); simp [hq]; done)
        | (refine flag_keep (by assumption) (by assumption) ?_; have hq : kOk (octs1 ns) i = true := (by (rw [hkT]; omega)); rw [hq, Bool.and_true]; rfl))
    · refine step_flag (Str.ofString "hanzi") (hFl (octs1 ns) (i + 1)) F6 N6 ?_ fun h7 tk7 F7 N7 => ?_
      · rw [hFl_succ]
        (try k_fold)
        k_steps
        all_goals (first
          | (refine flag_set (by assumption) (by assumption) ?_; have hq : ¬ hOk (octs1 ns) i = true := (by (rw [hhT]; omega)); simp [hq]; done)
          | (refine flag_keep (by assumption) (by assumption) ?_; have hq : hOk (octs1 ns) i = true := (by (rw [hhT]; omega)); rw [hq, Bool.and_true]; rfl))
      · refine wpR_execs_nil ?_
        exact ⟨_, _, ⟨_, _, rfl, rfl⟩, hap3, end4 F7, N7, hG3, rfl, rfl⟩
  · rintro m' news' h4 tk4 gn4 ⟨vfi', vpl', rfl, rfl⟩ F4 N4 hG4
    repeat (refine wpR_execs_nil ?_; (try dsimp only))
    refine post_of F4 N4 hG4 rfl (fun q hq => hq) ⟨D, FF, O, ws, vf, vo, ts, vn, vfi', vpl', cF, cO, hI, hvo, ?_, hDF, hFO, ?_, rfl⟩
    · rw [hn]; exact hvf
    · rw [hn]
end
section
variable {w : World} {mg mb : Str → Option Value} {bm : Addr} {ob : Obj}
theorem firstOf_in (s k : Int) : 0 ≤ firstOf s k ∧ firstOf s k < 256 := by
  unfold firstOf
  repeat' split
  all_goals omega
theorem pair_in {s k x : Int} (h : x ∈ pairOf s k) : 0 ≤ x ∧ x < 256 := by
  simp only [pairOf, List.mem_cons, List.not_mem_nil, or_false] at h
  rcases h with rfl | rfl
  · exact firstOf_in s k
  · omega
theorem octs0_in {ns : List Int} {i : Nat} {x : Int} (h : x ∈ octs0 ns i) : 0 ≤ x ∧ x < 256 := by
  obtain ⟨k, _, hk⟩ := List.mem_flatMap.mp h
  exact pair_in hk
theorem patch_in (v : Int) : 0 ≤ patch v ∧ patch v < 256 := by
  unfold patch
  have h : (v / 4 % 8).toNat < 8 := by omega
  generalize (v / 4 % 8).toNat = j at h
  have : ∀ j : Fin 8, 0 ≤ ([128, 160, 161, 170, 171, 175, 235, 251] : List Int).getD j.val 0 ∧ ([128, 160, 161, 170, 171, 175, 235, 251] : List Int).getD j.val 0 < 256 := by decide
  exact this ⟨j, h⟩
theorem octs1_in {ns : List Int} : ∀ x ∈ octs1 ns, 0 ≤ x ∧ x < 256 := by
  intro x h
  unfold octs1 at h
  split at h
  · rcases List.mem_or_eq_of_mem_set h with h | rfl
    · exact octs0_in h
    · exact patch_in _
  · exact octs0_in h
theorem octs0_snd (ns : List Int) : ∀ i j, i ≤ ((nums ns).drop 2).length → j < i → 161 ≤ (octs0 ns i).getD (2 * j + 1) 0
  | 0, j, _, hj => absurd hj (Nat.not_lt_zero _)
  | i + 1, j, h, hj => by
    rw [octs0_succ (List.getElem?_eq_getElem (by omega))]
    have hl := octs0_len ns i (by omega)
    rcases Nat.lt_or_ge j i with h1 | h1
    · rw [List.getD_eq_getElem?_getD, List.getElem?_append_left (by omega), ← List.getD_eq_getElem?_getD]
      exact octs0_snd ns i j (by omega) h1
    · have : j = i := by omega
      subst this
      rw [List.getD_eq_getElem?_getD, List.getElem?_append_right (by omega), ← List.getD_eq_getElem?_getD, hl]
      have e : 2 * j + 1 - 2 * j = 1 := by omega
      rw [e]
      simp only [pairOf, List.getD_cons_succ, List.getD_cons_zero]
      omega
theorem octs1_snd (ns : List Int) (j : Nat) (hj : j < (nums ns).length - 2) : 161 ≤ (octs1 ns).getD (2 * j + 1) 0 := by
  have h0 := octs0_snd ns ((nums ns).length - 2) j (by rw [List.length_drop]; exact Nat.le_refl _) hj
  unfold octs1
  split
  · rw [List.getD_eq_getElem?_getD, List.getElem?_set_ne, ← List.getD_eq_getElem?_getD]
    · exact h0
    · have : 0 ≤ (nums ns).getD 1 0 / 32 % (((nums ns).length - 2 : Nat) : Int) := Int.emod_nonneg _ (by omega)
      omega
  · exact h0
end
end
section
local macro_rules | `(tactic| walk_at "call type:bytes") => `(tactic| ((with_reducible show wpAny _ _ (call (Value.type "bytes") [Value.ref _]) _ _ _); k_dflt (refine' KBa.make_K ?kbaF ?kbaN ?kbah ?kbal ?kbai ?kbar ?kban ?_; (case kbaF => k_asm); (case kbaN => k_asm); (case kbah => rfl); (case kbal => exact News.isList (by k_asm) (by k_mem)); (case kbai => assumption); (case kbar => exact octs1_in); (case kban => (rw [octs1_len]; omega))); intro _ _ _ F' N' kbaIn))
section
variable {w : World} {mg mb : Str → Option Value} {bm : Addr} {ob : Obj}
def P13 (sl : Addr) (ns : List Int) (ps : Array Value) (m : Str → Option Value) (news : Led) : Prop := ∃ (D F O DU CT : Addr) (ws vo : List Value) (ts tb : Tok) (vn vfi vpl : Option Value) (cO : Nat), IntsAre ws (nums ns) ∧ IntsAre vo (octs1 ns) ∧ @LT.lt Nat _ D O ∧ @LT.lt Nat _ O DU ∧ @LT.lt Nat _ DU CT ∧
  (m = fun y => if y = Str.ofString "content" then some (.ref CT) else if y = Str.ofString "due" then some (.ref DU) else if y = Str.ofString "data" then some (.bytes (byteArr (octs1 ns)) tb) else m10 sl D F O ((nums ns).getD 0 0 % 4) ts vn vfi vpl (kFl (octs1 ns) ((nums ns).length - 2)) (hFl (octs1 ns) ((nums ns).length - 2)) y) ∧
  news = [(CT, listOf #[] 0), (DU, listOf #[] 0), (O, listOf vo.toArray cO), (D, listOf ws.toArray 0), (268, X.tableObj ps)]
theorem fin13 {sl : Addr} {ns : List Int} {ps : Array Value} {D F O DU CT L : Addr} {ws vo vf : List Value} {ts tb : Tok} {vn vfi vpl : Option Value} {cO cF : Nat} {g h : Heap} {gn : Array GenState} {d : Drawn} {tk : Nat} {os : OsState} 
    (F9 : Fr g L h (fun y => if y = Str.ofString "content" then some (.ref CT) else if y = Str.ofString "due" then some (.ref DU) else if y = Str.ofString "data" then some (.bytes (byteArr (octs1 ns)) tb) else m10 sl D F O ((nums ns).getD 0 0 % 4) ts vn vfi vpl (kFl (octs1 ns) ((nums ns).length - 2)) (hFl (octs1 ns) ((nums ns).length - 2)) y))
    (N9 : News g L h [(CT, listOf #[] 0), (DU, listOf #[] 0), (O, listOf vo.toArray cO), (F, listOf vf.toArray cF), (D, listOf ws.toArray 0), (268, X.tableObj ps)]) (hI : IntsAre ws (nums ns)) (hvo : IntsAre vo (octs1 ns)) (h1 : @LT.lt Nat _ D O) (h2 : @LT.lt Nat _ O DU) (h3 : @LT.lt Nat _ DU CT) (hG : AllBare gn) : PostQ (P13 sl ns ps) g L d os .next ⟨h, gn, d, tk, os⟩ :=
  post_of F9 N9 hG rfl (fun q hq => by
    simp only [List.mem_cons, List.not_mem_nil, or_false] at hq
    rcases hq with rfl | rfl | rfl | rfl | rfl <;> simp) ⟨D, F, O, DU, CT, ws, vo, ts, tb, vn, vfi, vpl, cO, hI, hvo, h1, h2, h3, rfl, rfl⟩
theorem part5 (sl : Addr) (ns : List Int) (ps : Array Value) : Part w mg mb bm ob 10 3 (fun _ => True) (P10 sl ns ps) (P13 sl ns ps) := by
  w_on
  delta Part
  k_fill
  refine' part_of ?ho ?hb; (case ho => k_is)
  intro dp un gd fa L outer A₀ base g h₁ gn d' tk os m news C _ F N hpre hG hd' hu
  obtain ⟨D, FF, O, ws, vf, vo, ts, vn, vfi, vpl, cF, cO, hI, hvo, hvf, hDF, hFO, rfl, rfl⟩ := hpre
  simp only [List.drop_succ_cons, List.drop_zero, List.take_succ_cons, List.take_zero]
  have X' := C.X
  have T' := C.T
  have B' := C.B
  have M' := C.M
  have hln := nums_len ns
  refine wpR_of ?_
  (try dsimp only [m10] at F)
  (try k_fold)
  k_steps
  have F9 := ‹Fr g L _ _›
  have N9 := ‹News g L _ _›
  exact fin13 F9 N9 hI hvo (Nat.lt_trans hDF hFO) (by omega) (by omega) hG
end
section
variable {w : World} {mg mb : Str → Option Value} {bm : Addr} {ob : Obj}
theorem octs0_snd_le (ns : List Int) : ∀ i j, i ≤ ((nums ns).drop 2).length → j < i → (octs0 ns i).getD (2 * j + 1) 0 ≤ 252
  | 0, j, _, hj => absurd hj (Nat.not_lt_zero _)
  | i + 1, j, h, hj => by
    rw [octs0_succ (List.getElem?_eq_getElem (by omega))]
    have hl := octs0_len ns i (by omega)
    rcases Nat.lt_or_ge j i with h1 | h1
    · rw [List.getD_eq_getElem?_getD, List.getElem?_append_left (by omega), ← List.getD_eq_getElem?_getD]
      exact octs0_snd_le ns i j (by omega) h1
    · have : j = i := by omega
      subst this
      rw [List.getD_eq_getElem?_getD, List.getElem?_append_right (by omega), ← List.getD_eq_getElem?_getD, hl]
      have e : 2 * j + 1 - 2 * j = 1 := by omega
      rw [e]
      simp only [pairOf, List.getD_cons_succ, List.getD_cons_zero]
      omega
theorem octs1_snd_le (ns : List Int) (j : Nat) (hj : j < (nums ns).length - 2) : (octs1 ns).getD (2 * j + 1) 0 ≤ 252 := by
  have h0 := octs0_snd_le ns ((nums ns).length - 2) j (by rw [List.length_drop]; exact Nat.le_refl _) hj
  unfold octs1
  split
  · rw [List.getD_eq_getElem?_getD, List.getElem?_set_ne, ← List.getD_eq_getElem?_getD]
    · exact h0
    · have : 0 ≤ (nums ns).getD 1 0 / 32 % (((nums ns).length - 2 : Nat) : Int) := Int.emod_nonneg _ (by omega)
      omega
  · exact h0
theorem ba_getD (o : List Int) (hin : ∀ x ∈ o, 0 ≤ x ∧ x < 256) (j : Nat) : (((byteArr o).getD j 0).toNat : Int) = o.getD j 0 := by
  have e : (byteArr o).getD j 0 = (o.map fun n => n.toNat.toUInt8).getD j 0 := by
    simp [byteArr, Array.getD_eq_getD_getElem?, List.getD_eq_getElem?_getD]
  rw [e, List.getD_eq_getElem?_getD, List.getD_eq_getElem?_getD, List.getElem?_map]
  cases h : o[j]? with
  | none => rfl
  | some x =>
    have hx := hin x (List.mem_of_getElem? h)
    simp only [Option.map_some, Option.getD_some]
    have h2 : (x.toNat.toUInt8).toNat = x.toNat := by simp [Nat.toUInt8, UInt8.toNat_ofNat']; omega
    omega
theorem kOk_pair (o : List Int) (hin : ∀ x ∈ o, 0 ≤ x ∧ x < 256) (j : Nat) (h1 : 161 ≤ o.getD (2 * j + 1) 0) (h2 : o.getD (2 * j + 1) 0 ≤ 252) :
    pairK (((byteArr o).getD (2 * j) 0).toNat : Int) (((byteArr o).getD (2 * j + 1) 0).toNat : Int) = kOk o j := by
  rw [ba_getD o hin, ba_getD o hin, Bool.eq_iff_iff]
  simp only [pairK, kOk, Bool.or_eq_true, Bool.and_eq_true, decide_eq_true_eq, beq_iff_eq]
  generalize o.getD (2 * j + 1) 0 = b at h1 h2 ⊢
  generalize o.getD (2 * j) 0 = a
  omega
theorem hOk_pair (o : List Int) (hin : ∀ x ∈ o, 0 ≤ x ∧ x < 256) (j : Nat) (h1 : 161 ≤ o.getD (2 * j + 1) 0) (h2 : o.getD (2 * j + 1) 0 ≤ 252) :
    pairH (((byteArr o).getD (2 * j) 0).toNat : Int) (((byteArr o).getD (2 * j + 1) 0).toNat : Int) = hOk o j := by
  rw [ba_getD o hin, ba_getD o hin, Bool.eq_iff_iff]
  simp only [pairH, hOk, Bool.or_eq_true, Bool.and_eq_true, decide_eq_true_eq]
  generalize o.getD (2 * j + 1) 0 = b at h1 h2 ⊢
  generalize o.getD (2 * j) 0 = a
  omega
theorem all_congr {n : Nat} {f g : Nat → Bool} (h : ∀ i, i < n → f i = g i) : (List.range n).all f = (List.range n).all g := by
  rw [Bool.eq_iff_iff, List.all_eq_true, List.all_eq_true]
  exact ⟨fun H i hi => (h i (List.mem_range.mp hi)) ▸ H i hi, fun H i hi => (h i (List.mem_range.mp hi)).symm ▸ H i hi⟩
theorem allK_fl (ns : List Int) : allK (byteArr (octs1 ns)) ((nums ns).length - 2) = kFl (octs1 ns) ((nums ns).length - 2) :=
  all_congr fun i hi => kOk_pair _ octs1_in i (octs1_snd ns i hi) (octs1_snd_le ns i hi)
theorem allH_fl (ns : List Int) : allH (byteArr (octs1 ns)) ((nums ns).length - 2) = hFl (octs1 ns) ((nums ns).length - 2) :=
  all_congr fun i hi => hOk_pair _ octs1_in i (octs1_snd ns i hi) (octs1_snd_le ns i hi)
theorem snd_bytes (ns : List Int) : ∀ i, i < (nums ns).length - 2 → 161 ≤ ((byteArr (octs1 ns)).getD (2 * i + 1) 0).toNat := fun i hi => by
  have h1 := octs1_snd ns i hi
  have h2 := ba_getD (octs1 ns) octs1_in (2 * i + 1)
  omega
theorem size_bytes (ns : List Int) : (byteArr (octs1 ns)).size = 2 * ((nums ns).length - 2) := by rw [byteArr_size, octs1_len]
end
section
variable {w : World} {mg mb : Str → Option Value} {bm : Addr} {ob : Obj}
/-- the law's names from here on: those still asked for; the others as they are -/
abbrev mL (D O DU CT : Addr) (b : Array UInt8) (tb : Tok) (kb hb : Bool) (u : Str → Option Value) : Str → Option Value := fun y =>
  if y = Str.ofString "content" then some (.ref CT) else if y = Str.ofString "due" then some (.ref DU) else if y = Str.ofString "data" then some (.bytes b tb) else if y = Str.ofString "hanzi" then some (.bool hb) else if y = Str.ofString "kanji" then some (.bool kb) else
  if y = Str.ofString "octets" then some (.ref O) else if y = Str.ofString "numbers" then some (.ref D) else u y
theorem mL_of {D O DU CT : Addr} {b : Array UInt8} {tb : Tok} {kb hb : Bool} {m : Str → Option Value} (h1 : m (Str.ofString "content") = some (.ref CT)) (h2 : m (Str.ofString "due") = some (.ref DU)) (h3 : m (Str.ofString "data") = some (.bytes b tb)) (h4 : m (Str.ofString "hanzi") = some (.bool hb)) (h5 : m (Str.ofString "kanji") = some (.bool kb))
    (h6 : m (Str.ofString "octets") = some (.ref O)) (h7 : m (Str.ofString "numbers") = some (.ref D)) : m = mL D O DU CT b tb kb hb m := by
  funext y
  simp only [mL]
  split
  · next e => rw [e, h1]
  · split
    · next e => rw [e, h2]
    · split
      · next e => rw [e, h3]
      · split
        · next e => rw [e, h4]
        · split
          · next e => rw [e, h5]
          · split
            · next e => rw [e, h6]
            · split
              · next e => rw [e, h7]
              · rfl
abbrev lLed (D O DU CT : Addr) (ws vo cs ds : List Value) (cO c1 c2 : Nat) (ps : Array Value) : Led := [(CT, listOf cs.toArray c1), (DU, listOf ds.toArray c2), (O, listOf vo.toArray cO), (D, listOf ws.toArray 0), (268, X.tableObj ps)]
/-- a turn over the kinds: a kind that is kept -/
def KeepQ (D O DU CT : Addr) (b : Array UInt8) (tb : Tok) (kb hb : Bool) (ws vo cs ds : List Value) (cO : Nat) (rest : Led) (m : Int) (t : Tok) (g : Heap) (L : Addr) (d : Drawn) (os : OsState) (f : Flow) (s' : Shared) : Prop :=
  f = .next ∧ ∃ u T D1 tm c1 c2 c3 ps', Fr g L s'.heap (mL D O DU CT b tb kb hb u) ∧ TriplesOk ps'.toList ∧ (@LT.lt Nat _ CT T ∧ @LT.lt Nat _ 268 T) ∧ (@LT.lt Nat _ CT D1 ∧ @LT.lt Nat _ 268 D1) ∧
    News g L s'.heap (lLed D O DU CT ws vo (cs ++ [.ref T]) (ds ++ [.ref D1]) cO c1 c2 ps' ++ ((T, tupObj [.bytes b tb, .int m t]) :: (D1, listOf #[.int m tm, .ref O] c3) :: rest)) ∧ AllBare s'.gens ∧ s'.drawn = d ∧ s'.os = os
def KeepPre (D O DU CT : Addr) (b : Array UInt8) (tb : Tok) (kb hb : Bool) (ws vo cs ds : List Value) (cO c1 c2 : Nat) (ps : Array Value) (rest : Led) (m : Int) (t : Tok) (u : Str → Option Value) (x : Bool) (fr : Str → Option Value) (news : Led) : Prop :=
  (fr = fun z => if z = Str.ofString "holds" then some (.bool x) else if z = Str.ofString "told" then some (.int m t) else mL D O DU CT b tb kb hb u z) ∧ news = lLed D O DU CT ws vo cs ds cO c1 c2 ps ++ rest
/-- a kind that is refused -/
def DropQ (D O DU CT : Addr) (b : Array UInt8) (tb : Tok) (kb hb : Bool) (ws vo cs ds : List Value) (cO c1 c2 : Nat) (rest : Led) (g : Heap) (L : Addr) (d : Drawn) (os : OsState) (f : Flow) (s' : Shared) : Prop :=
  f = .cont ∧ ∃ u ps', Fr g L s'.heap (mL D O DU CT b tb kb hb u) ∧ TriplesOk ps'.toList ∧ News g L s'.heap (lLed D O DU CT ws vo cs ds cO c1 c2 ps' ++ rest) ∧ AllBare s'.gens ∧ s'.drawn = d ∧ s'.os = os
theorem drop_led {g h : Heap} {L D O DU CT : Addr} {ws vo cs ds : List Value} {cO c1 c2 : Nat} {ps ps2 : Array Value} {rest nw : Led} (N : News g L h (lLed D O DU CT ws vo cs ds cO c1 c2 ps ++ rest)) (hr8 : ∀ q ∈ rest, q.1 ≠ 268) (hq : (268, X.tableObj ps2) ∈ nw) :
    ∀ q ∈ lLed D O DU CT ws vo cs ds cO c1 c2 ps2 ++ rest, q ∈ nw ∨ (q ∈ lLed D O DU CT ws vo cs ds cO c1 c2 ps ++ rest ∧ q.1 ∉ [(268, X.tableObj ps)].map (·.1)) := by
  simp only [lLed, List.cons_append, List.nil_append] at N ⊢
  have e1 := news_ne N (a := CT) (b := 268) (by k_mem) (by k_mem) (by intro h; cases h)
  have e2 := news_ne N (a := DU) (b := 268) (by k_mem) (by k_mem) (by intro h; cases h)
  have e3 := news_ne N (a := O) (b := 268) (by k_mem) (by k_mem) (by intro h; cases h)
  have e4 := news_ne N (a := D) (b := 268) (by k_mem) (by k_mem) (by intro h; cases h)
  intro q hq'
  simp only [List.mem_cons] at hq'
  rcases hq' with rfl | rfl | rfl | rfl | rfl | hq'
  · exact .inr ⟨by simp, by simpa using e1⟩
  · exact .inr ⟨by simp, by simpa using e2⟩
  · exact .inr ⟨by simp, by simpa using e3⟩
  · exact .inr ⟨by simp, by simpa using e4⟩
  · exact .inl hq
  · exact .inr ⟨by simp [hq'], by simpa using hr8 q hq'⟩
theorem steps_num {A : Around} {env : Env} {l₁ l₂ : List Stmt} {Q : Flow → Shared → Prop} {E : Value → Shared → Prop} {g h3 : Heap} {L : Addr} {d : Drawn} {os : OsState} {gn : Array GenState} (name : Str) (c : Int) {m₀ : Str → Option Value} {news : Led} {tk3 : Nat} {M : Model} (_ : Fr g L h3 m₀) (_ : News g L h3 news)
    (h1 : wpAny M A (execs l₁ env) (NumQ name c g L d os m₀ news) (fun _ _ => False) ⟨h3, gn, d, tk3, os⟩)
    (h2 : ∀ h t tk gn, AllBare gn → Fr g L h (fun y => if y = name then some (.int c t) else m₀ y) → News g L h news → wpR M A (execs l₂ env) Q E ⟨h, gn, d, tk, os⟩) : wpR M A (execs (l₁ ++ l₂) env) Q E ⟨h3, gn, d, tk3, os⟩ :=
  wpR_execs_app (wpAny_mono h1 (fun f s' ⟨hf, h, t, tk, gn, hs, hG, F, N⟩ => by subst hf; subst hs; exact h2 h t tk gn hG F N) (fun _ _ z => z.elim))
theorem segBits_len4 {b : Array UInt8} {n : Nat} (hb : b.size = 2 * n) : (segBits b n 4).length = 8 * (2 * n) := by
  unfold segBits
  rw [if_pos rfl, bits_len (fun j => ((b.getD j 0).toNat : Int)), hb]
theorem segBits_lenK {b : Array UInt8} {n : Nat} {m : Int} (hm : m = 8 ∨ m = 13) : (segBits b n m).length = 13 * n := by
  unfold segBits
  rcases hm with rfl | rfl
  · rw [if_neg (by decide), if_pos rfl, bits_len (fun j => kanjiV ((b.getD (2 * j) 0).toNat : Int) ((b.getD (2 * j + 1) 0).toNat : Int))]
  · rw [if_neg (by decide), if_neg (by decide), bits_len (fun j => hanziV ((b.getD (2 * j) 0).toNat : Int) ((b.getD (2 * j + 1) 0).toNat : Int))]
theorem keep_mk {D O DU CT T D1 : Addr} {b : Array UInt8} {tb tm t : Tok} {kb hb : Bool} {ws vo cs ds : List Value} {cO c1 c2 c3 : Nat} {ps' : Array Value} {rest : Led} {m : Int} {g h : Heap} {L : Addr} {d : Drawn} {os : OsState} {gn : Array GenState} {tk : Nat} {fr : Str → Option Value} (F : Fr g L h fr) (hps : TriplesOk ps'.toList) (h1 : @LT.lt Nat _ CT T ∧ @LT.lt Nat _ 268 T) (h2 : @LT.lt Nat _ CT D1 ∧ @LT.lt Nat _ 268 D1)
    (N : News g L h ((T, tupObj [.bytes b tb, .int m t]) :: (D1, listOf #[.int m tm, .ref O] c3) :: (CT, listOf (cs.toArray.push (.ref T)) c1) :: (DU, listOf (ds.toArray.push (.ref D1)) c2) :: (O, listOf vo.toArray cO) :: (D, listOf ws.toArray 0) :: (268, X.tableObj ps') :: rest)) (hm : fr = mL D O DU CT b tb kb hb fr) (hG : AllBare gn) :
    KeepQ D O DU CT b tb kb hb ws vo cs ds cO rest m t g L d os .next ⟨h, gn, d, tk, os⟩ := by
  refine ⟨rfl, fr, T, D1, tm, c1, c2, c3, ps', hm ▸ F, hps, h1, h2, news_sub N fun q hq => ?_, hG, rfl, rfl⟩
  simp only [lLed, List.cons_append, List.nil_append, List.mem_cons, List.push_toArray] at hq ⊢
  rcases hq with h | h | h | h | h | h | h | h <;> simp [h]
theorem led_after {g h h' : Heap} {L D O DU CT : Addr} {ws vo cs ds : List Value} {cO c1 c2 : Nat} {ps ps2 : Array Value} {rest items nw : Led} (N : News g L h (lLed D O DU CT ws vo cs ds cO c1 c2 ps ++ rest)) (hr8 : ∀ q ∈ rest, q.1 ≠ 268) (hq : ∀ q ∈ (268, X.tableObj ps2) :: items, q ∈ nw)
    (hN : ∀ l : Led, (∀ q ∈ l, q ∈ nw ∨ (q ∈ lLed D O DU CT ws vo cs ds cO c1 c2 ps ++ rest ∧ q.1 ∉ [(268, X.tableObj ps)].map (·.1))) → News g L h' l) : News g L h' (items ++ (lLed D O DU CT ws vo cs ds cO c1 c2 ps2 ++ rest)) := by
  simp only [lLed, List.cons_append, List.nil_append] at N hN ⊢
  have e1 := news_ne N (a := CT) (b := 268) (by k_mem) (by k_mem) (by intro h; cases h)
  have e2 := news_ne N (a := DU) (b := 268) (by k_mem) (by k_mem) (by intro h; cases h)
  have e3 := news_ne N (a := O) (b := 268) (by k_mem) (by k_mem) (by intro h; cases h)
  have e4 := news_ne N (a := D) (b := 268) (by k_mem) (by k_mem) (by intro h; cases h)
  refine hN _ fun q hq' => ?_
  rcases List.mem_append.mp hq' with hq' | hq'
  · exact .inl (hq q (.tail _ hq'))
  · simp only [List.mem_cons] at hq'
    rcases hq' with rfl | rfl | rfl | rfl | rfl | hq'
    · exact .inr ⟨by simp, by simpa using e1⟩
    · exact .inr ⟨by simp, by simpa using e2⟩
    · exact .inr ⟨by simp, by simpa using e3⟩
    · exact .inr ⟨by simp, by simpa using e4⟩
    · exact .inl (hq _ (.head _))
    · exact .inr ⟨by simp [hq'], by simpa using hr8 q hq'⟩
end
section
variable {w : World} {mg mb : Str → Option Value} {bm : Addr} {ob : Obj}
/-- what a piece of the law's text does: the law stands right above the base -/
def WalkL (w : World) (mg mb : Str → Option Value) (bm : Addr) (ob : Obj) (f : Addr) (pick : List Stmt → List Stmt) (Pre : (Str → Option Value) → Led → Prop) (Q : Heap → Addr → Drawn → OsState → Flow → Shared → Prop) : Prop :=
  ∀ (b : List Stmt) (sc : Scope) (q : Str) (cd : Value), fnBody (hd.heap_39 w.params) f = some (b, sc, q, cd) →
  ∀ (dp un : Nat) (gd : Option (List Code)) (fa L : Addr) (outer : List Env) (A₀ : Around) (g h₁ : Heap) (gn : Array GenState) (d : Drawn) (tk : Nat) (os : OsState) (m : Str → Option Value) (news : Led),
    CX w mg mb bm ob A₀ g outer g → Fr g L h₁ m → News g L h₁ news → Pre m news → AllBare gn → dp + 41 < recursionLimit → un + 403 < cLine →
    wpR (model PySem.Challenge.rw_im0109_02.row.prog w) (ktrTop (dp + 1) (un + 3) gd q sc L fa cd [] outer) (execs (pick b) (envX q sc L fa cd []))
      (Q g L d os) (fun _ _ => False) ⟨h₁, gn, d, tk, os⟩
theorem Walk.toL {f : Addr} {pick : List Stmt → List Stmt} {Pre : (Str → Option Value) → Led → Prop} {Q : Heap → Addr → Drawn → OsState → Flow → Shared → Prop} (h : Walk w mg mb bm ob f pick (fun _ _ => True) Pre Q) : WalkL w mg mb bm ob f pick Pre Q :=
  fun b sc q cd hb dp un gd fa L outer A₀ g h₁ gn d tk os m news C F N hp hG hd hu => h b sc q cd hb (dp + 1) (un + 3) gd fa L outer A₀ g g h₁ gn d tk os m news C trivial F N hp hG (by omega) (by omega)
theorem walkL_of {f : Addr} {pick : List Stmt → List Stmt} {Pre : (Str → Option Value) → Led → Prop} {Q : Heap → Addr → Drawn → OsState → Flow → Shared → Prop} {name qual : Str} {params : Arguments} {body : List Stmt} {scope : Scope} {dV kV doc pm cdv ct oc : Value} {an od : Option Addr} {osl : Array (Option Value)}
    (ho : (hd.heap_39 w.params).lookup f = some ⟨oc, od, .func (fnX name qual params body scope [] dV kV doc pm an cdv ct), osl⟩)
    (hb : ∀ (dp un : Nat) (gd : Option (List Code)) (fa L : Addr) (outer : List Env) (A₀ : Around) (g h₁ : Heap) (gn : Array GenState) (d : Drawn) (tk : Nat) (os : OsState) (m : Str → Option Value) (news : Led),
      CX w mg mb bm ob A₀ g outer g → Fr g L h₁ m → News g L h₁ news → Pre m news → AllBare gn → dp + 41 < recursionLimit → un + 403 < cLine →
      wpR (model PySem.Challenge.rw_im0109_02.row.prog w) (ktrTop (dp + 1) (un + 3) gd qual scope L fa cdv [] outer) (execs (pick body) (envX qual scope L fa cdv []))
        (Q g L d os) (fun _ _ => False) ⟨h₁, gn, d, tk, os⟩) :
    WalkL w mg mb bm ob f pick Pre Q := by
  intro b sc q cd hbody
  have : fnBody (hd.heap_39 w.params) f = some (body, scope, qual, cdv) := by unfold fnBody; rw [ho]
  rw [this] at hbody
  injection hbody with e
  injection e with e1 e
  injection e with e2 e
  injection e with e3 e4
  subst e1; subst e2; subst e3; subst e4
  exact hb
theorem part_L {i k : Nat} {Gp : Heap → Prop} {Pre Post : (Str → Option Value) → Led → Prop} (h : Part w mg mb bm ob i k (fun _ => True) Pre Post) : WalkL w mg mb bm ob 327 (fun b => (b.drop i).take k) Pre (PostQ Post) := by
  intro b sc q cd hb dp un gd fa L outer A₀ g h₁ gn d tk os m news C F N hp hG hd hu
  refine h b sc q cd ?_ (dp + 1) (un + 3) gd fa L outer A₀ g g h₁ gn d tk os m news C trivial F N hp hG (by omega) (by omega)
  exact hb
theorem fr_hide {g h : Heap} {L : Addr} {m : Str → Option Value} {news : Led} (F : Fr g L h m) (N : News g L h news) : Fr g L (hideAll h (news.map (·.1))) m := by
  refine ⟨?_, fun b o e => hideAll_get _ (F.keep b o e) fun hm => ?_, F.above⟩
  · obtain ⟨o, es, ep, ho, r⟩ := F.ns
    refine ⟨o, es, ep, hideAll_get _ ho fun hm => ?_, r⟩
    obtain ⟨q, hq, e⟩ := List.mem_map.mp hm
    exact (N q hq).2.1 e
  · obtain ⟨q, hq, e'⟩ := List.mem_map.mp hm
    have := (N q hq).2.2
    rw [e', e] at this; cases this
theorem drop_mk {D O DU CT : Addr} {b : Array UInt8} {tb : Tok} {kb hb : Bool} {ws vo cs ds : List Value} {cO c1 c2 : Nat} {ps' : Array Value} {rest : Led} {g h : Heap} {L : Addr} {d : Drawn} {os : OsState} {gn : Array GenState} {tk : Nat} {fr : Str → Option Value} (F : Fr g L h fr) (hm : fr = mL D O DU CT b tb kb hb fr) (hps : TriplesOk ps'.toList)
    (N : News g L h (lLed D O DU CT ws vo cs ds cO c1 c2 ps' ++ rest)) (hG : AllBare gn) : DropQ D O DU CT b tb kb hb ws vo cs ds cO c1 c2 rest g L d os .cont ⟨h, gn, d, tk, os⟩ := ⟨rfl, fr, ps', hm ▸ F, hps, N, hG, rfl, rfl⟩
end
end
section
local macro_rules | `(tactic| walk_at "subscriptTail Name Slice ref ref") => `(tactic| ((with_reducible show wpAny _ _ (subscriptTail _ (PySem.Expr.Slice (some _) (some _) none _) (Value.ref _) (Value.ref _)) _ _ _); k_dflt (refine' kmk_slice_ints ?F ?N ?l ?p ?q ?i ?m ?c ?_ ?s ?t ?z; (case F => k_asm); (case N => k_asm); (case l => kmk_list); (case p => kmk_part); (case q => kmk_part); (case i => (first | assumption | l_ints)); (case m => (first | exact my_run 4 (by (first | assumption | l_ints)) (by omega) (by omega) (by omega) | exact my_run 8 (by (first | assumption | l_ints)) (by omega) (by omega) (by omega) | exact my_run 13 (by (first | assumption | l_ints)) (by omega) (by omega) (by omega) | exact my_run (wid _ _) (by (first | assumption | l_ints)) (by omega) rfl (by omega))); (case c => kmk_len); (case s => with_unfolding_all rfl); (case t => kmk_pure); (case z => first | (refine kmk_sz (by assumption) ?_; rw [sizeLine_eq]; (try simp only [List.length_append, List.length_take, List.length_drop]); omega) | exact Nat.le_of_ble_eq_true rfl)); intro D' ws' h' F' N' l1 hI' hC' hL'; (try k_lt l1)))
local macro_rules | `(tactic| walk_at "call ref") => `(tactic| ((with_reducible show wpAny _ _ (call (Value.ref 315) [Value.ref _]) _ _ _); k_dflt (refine' Spec.useS (lnum_spec _ _ _ _ ?my_i ?my_l) lnum_hs ?my_c ?my_f ?my_n rfl ?my_sub ?my_g ?my_d ?my_u ?_; (case my_i => assumption); (case my_l => (simp only [List.length_take, List.length_drop]; omega)); (case my_c => assumption); (case my_f => k_asm); (case my_n => k_asm); (case my_sub => walk_at "my_mems"); (case my_g => assumption); (case my_d => omega); (case my_u => omega)); rintro v' nw' h' tk' g' ⟨t', hv', hq'⟩ F' N' hG'; subst hv'; (try dsimp only)))
local macro_rules | `(tactic| walk_at "my_subs") => `(tactic| ((repeat (refine List.forall_mem_cons.mpr ⟨by k_mem, ?_⟩)); first | exact List.forall_mem_nil _ | (intro q hq; repeat (first | exact hq | refine List.mem_cons_of_mem _ ?_))))
local macro_rules | `(tactic| k_upd) => `(tactic| first | (refine' Upd.head ?a; (case a => (repeat (first | exact List.forall_mem_nil _ | assumption | refine List.forall_mem_cons.mpr ⟨by walk_at "my_ne1", ?_⟩)))) | (refine' Upd.tail ?a ?b; (case a => walk_at "my_ne1"); (case b => k_upd)))
section
variable {w : World} {mg mb : Str → Option Value} {bm : Addr} {ob : Obj}
theorem read4 (B R : Addr) (row : Int) (tr : Tok) (vs : List Value) (bits : List Int) (c rc : Nat) (rest : Led) (rvs : List Value) (runs : List RunD) (s : Rd) (a a1 a2 a3 : Nat) (ta : Tok) (u : Str → Option Value)
    (hI : IntsAre vs bits) (hlen : bits.length ≤ 1000) (hrow : row = 0 ∨ row = 1 ∨ row = 2) (hs : RdOk s) (hf : Found bits (row + 1) s a a1 a2 a3) (hR : ∀ q ∈ rest, q.1 ≠ R) (hBR : @Ne Nat B R) (hr : RunsIn rest rvs runs) (hrl : rvs.length ≤ 10) (hm4 : s.m = 4) :
    Walk w mg mb bm ob 322 (loopBody 2) (fun _ _ => True) (fun m news => m = mW B R row tr a ta u ∧ news = (R, listOf rvs.toArray rc) :: (B, listOf vs.toArray c) :: rest) (ReadQ B R row tr vs c rest runs s a3) := by
  w_on
  delta Walk
  k_fill
  refine' walk_of ?ho ?hb; (case ho => k_is)
  intro dp un gd fa L outer A₀ base g h₁ gn d' tk os m news C _ F N hpre hG hd' hu
  obtain ⟨rfl, rfl⟩ := hpre
  simp only [loopBody, List.drop_succ_cons, List.drop_zero]
  have X' := C.X
  have T' := C.T
  have B' := C.B
  have M' := C.M
  have hl0 := hf.le0
  refine step_num (Str.ofString "kind") 4 F N ?_ fun h2 t2 tk2 gn2 hG2 F2 N2 => ?_
  · (try k_fold)
    k_steps
    refine num_mk (by assumption) (by assumption) (by assumption) ?_ ?_
    · walk_at "my_subs"
    · exact num_at (hf.kind.trans hm4) (by omega) rfl
  · refine wpR_execs_app (l₁ := [_, _, _]) (l₂ := [_, _, _, _, _, _, _]) ?_
    dsimp only [mW] at F2
    (try k_fold)
    k_steps
    refine step_num (Str.ofString "wide") (wid s.m (row + 1) : Nat) (by assumption) (by assumption) ?_ fun h3 t3 tk3 gn3 hG3 F3 N3 => ?_
    · (try k_fold)
      k_steps
      refine num_mk (by assumption) (by assumption) (by assumption) ?_ ?_
      · walk_at "my_subs"
      · rw [hm4]
        rcases hrow with rfl | rfl | rfl <;> rfl
    · have hl1 := hf.h1
      have hl2 := hf.h2
      have hl3 := hf.h3
      have hl4 := hf.le
      rw [if_neg (by omega)] at hl1
      refine step_num (Str.ofString "left") s.cnt F3 N3 ?_ fun h4 t4 tk4 gn4 hG4 F4 N4 => ?_
      · (try k_fold)
        k_steps
        refine num_mk (by assumption) (by assumption) (by assumption) ?_ ?_
        · walk_at "my_subs"
        · exact num_at hf.left (by omega) rfl
      · have hc99 := hs.2.1
        refine wpR_execs_app (l₁ := [_, _, _]) (l₂ := [_, _]) ?_
        (try k_fold)
        k_steps
        refine wpR_execs_cons (wpR_For ?_)
        (try k_fold)
        k_steps
        have F5 := ‹Fr g L _ _›
        have N5 := ‹News g L _ (_ :: _)›
        have hrg := ‹IsRange _ _ 0 _ 1 _ _ _›
        obtain ⟨_, hRO, hBO, hrO⟩ := ‹_ < _ ∧ R < _ ∧ B < _ ∧ AllLt _ rest›
        replace hRO := Nat.ne_of_lt hRO
        replace hBO := Nat.ne_of_lt hBO
        replace hrO := tbn_neAll hrO
        have hRB : @Ne Nat R B := fun e => hBR e.symm
        refine wpAny_pyIter_range hrg (small1 _ hc99) ?_
        rw [size1]
        have F6 := keep_fr F5 (h' := _) fun b' o e => Heap.get?_push_of_some (riObj 0 s.cnt 1) e
        have N6 := news_fresh F5 N5 (fun b' o e => Heap.get?_push_of_some (riObj 0 s.cnt 1) e) (Heap.get?_push_size _ rfl)
        refine forItems (R := R) (B := B) (row := row) (kd := 4) (tr := tr) (rvs := rvs) (vs := vs) (rc := rc) (c := c) (rest := rest) (sg := s) (a2 := a2) rfl rfl rfl F6 (mI_x rfl (by omega) rfl rfl rfl rfl rfl) N6 (fun q hq => Nat.ne_of_lt (Heap.lt_size (N5 q hq).1)) (by walk_at "my_subs") (by assumption) ?_ ?_
        · intro j t' ta' u' ws c' h7 tk7 gn7 hj hw F7 N7 hrI hOI hG7
          have hl8 : lng s.m = 8 := by rw [hm4]; rfl
          have hV := hs.2.2 j hj
          have hit := hf.item j hj
          rw [hl8] at F7 hl3 hit
          dsimp only [mI, mW] at F7
          refine wpR_execs_app (l₁ := [_]) (l₂ := [_, _, _]) ?_
          (try k_fold)
          k_steps
          refine step_num (Str.ofString "value") (s.V j) (by assumption) (by assumption) ?_ fun h8 t8 tk8 gn8 hG8 F8 N8 => ?_
          · (try k_fold)
            k_steps
            refine num_mk (by assumption) (by assumption) (by assumption) ?_ ?_
            · walk_at "my_subs"
            · exact num_at hit (by omega) rfl
          · have hwl := octR_len s j
            have hwl2 := hw.length
            refine wpR_of ?_
            (try k_fold)
            k_steps
            refine item_mk4 (by assumption) (by assumption) (mI_x rfl (by rw [hl8]; push_cast; omega) rfl rfl rfl rfl rfl) hw (by rw [hm4]; rfl) (by assumption)
        · intro u' ta' ws c' h7 tk7 gn7 F7 hw N7 hG7
          repeat (refine wpR_execs_nil ?_; (try dsimp only))
          (try dsimp only [mI, mW] at F7)
          refine wpR_of ?_
          (try k_fold)
          k_steps
          have lr := ‹_ < _ ∧ R < _ ∧ B < _ ∧ AllLt _ rest›
          exact read_mk1 (by assumption) (by assumption) hm4.symm (mW_x rfl (by omega) rfl rfl rfl) (Nat.ne_of_lt lr.2.1) hRO hr hw (by assumption)
end
section
variable {w : World} {mg mb : Str → Option Value} {bm : Addr} {ob : Obj}
theorem read8 (B R : Addr) (row : Int) (tr : Tok) (vs : List Value) (bits : List Int) (c rc : Nat) (rest : Led) (rvs : List Value) (runs : List RunD) (s : Rd) (a a1 a2 a3 : Nat) (ta : Tok) (u : Str → Option Value)
    (hI : IntsAre vs bits) (hlen : bits.length ≤ 1000) (hrow : row = 0 ∨ row = 1 ∨ row = 2) (hs : RdOk s) (hf : Found bits (row + 1) s a a1 a2 a3) (hR : ∀ q ∈ rest, q.1 ≠ R) (hBR : @Ne Nat B R) (hr : RunsIn rest rvs runs) (hrl : rvs.length ≤ 10) (hm4 : s.m = 8) :
    Walk w mg mb bm ob 322 (loopBody 2) (fun _ _ => True) (fun m news => m = mW B R row tr a ta u ∧ news = (R, listOf rvs.toArray rc) :: (B, listOf vs.toArray c) :: rest) (ReadQ B R row tr vs c rest runs s a3) := by
  w_on
  delta Walk
  k_fill
  refine' walk_of ?ho ?hb; (case ho => k_is)
  intro dp un gd fa L outer A₀ base g h₁ gn d' tk os m news C _ F N hpre hG hd' hu
  obtain ⟨rfl, rfl⟩ := hpre
  simp only [loopBody, List.drop_succ_cons, List.drop_zero]
  have X' := C.X
  have T' := C.T
  have B' := C.B
  have M' := C.M
  have hl0 := hf.le0
  refine step_num (Str.ofString "kind") 8 F N ?_ fun h2 t2 tk2 gn2 hG2 F2 N2 => ?_
  · (try k_fold)
    k_steps
    refine num_mk (by assumption) (by assumption) (by assumption) ?_ ?_
    · walk_at "my_subs"
    · exact num_at (hf.kind.trans hm4) (by omega) rfl
  · refine wpR_execs_app (l₁ := [_, _, _]) (l₂ := [_, _, _, _, _, _, _]) ?_
    dsimp only [mW] at F2
    (try k_fold)
    k_steps
    refine step_num (Str.ofString "wide") (wid s.m (row + 1) : Nat) (by assumption) (by assumption) ?_ fun h3 t3 tk3 gn3 hG3 F3 N3 => ?_
    · (try k_fold)
      k_steps
      refine num_mk (by assumption) (by assumption) (by assumption) ?_ ?_
      · walk_at "my_subs"
      · rw [hm4]
        rcases hrow with rfl | rfl | rfl <;> rfl
    · have hl1 := hf.h1
      have hl2 := hf.h2
      have hl3 := hf.h3
      have hl4 := hf.le
      rw [if_neg (by omega)] at hl1
      refine step_num (Str.ofString "left") s.cnt F3 N3 ?_ fun h4 t4 tk4 gn4 hG4 F4 N4 => ?_
      · (try k_fold)
        k_steps
        refine num_mk (by assumption) (by assumption) (by assumption) ?_ ?_
        · walk_at "my_subs"
        · exact num_at hf.left (by omega) rfl
      · have hc99 := hs.2.1
        refine wpR_execs_app (l₁ := [_, _, _]) (l₂ := [_, _]) ?_
        (try k_fold)
        k_steps
        refine wpR_execs_cons (wpR_For ?_)
        (try k_fold)
        k_steps
        have F5 := ‹Fr g L _ _›
        have N5 := ‹News g L _ (_ :: _)›
        have hrg := ‹IsRange _ _ 0 _ 1 _ _ _›
        obtain ⟨_, hRO, hBO, hrO⟩ := ‹_ < _ ∧ R < _ ∧ B < _ ∧ AllLt _ rest›
        replace hRO := Nat.ne_of_lt hRO
        replace hBO := Nat.ne_of_lt hBO
        replace hrO := tbn_neAll hrO
        have hRB : @Ne Nat R B := fun e => hBR e.symm
        refine wpAny_pyIter_range hrg (small1 _ hc99) ?_
        rw [size1]
        have F6 := keep_fr F5 (h' := _) fun b' o e => Heap.get?_push_of_some (riObj 0 s.cnt 1) e
        have N6 := news_fresh F5 N5 (fun b' o e => Heap.get?_push_of_some (riObj 0 s.cnt 1) e) (Heap.get?_push_size _ rfl)
        refine forItems (R := R) (B := B) (row := row) (kd := 8) (tr := tr) (rvs := rvs) (vs := vs) (rc := rc) (c := c) (rest := rest) (sg := s) (a2 := a2) rfl rfl rfl F6 (mI_x rfl (by omega) rfl rfl rfl rfl rfl) N6 (fun q hq => Nat.ne_of_lt (Heap.lt_size (N5 q hq).1)) (by walk_at "my_subs") (by assumption) ?_ ?_
        · intro j t' ta' u' ws c' h7 tk7 gn7 hj hw F7 N7 hrI hOI hG7
          have hl8 : lng s.m = 13 := by rw [hm4]; rfl
          have hV := hs.2.2 j hj
          have hit := hf.item j hj
          rw [hl8] at F7 hl3 hit
          dsimp only [mI, mW] at F7
          refine wpR_execs_app (l₁ := [_]) (l₂ := [_, _, _]) ?_
          (try k_fold)
          k_steps
          refine step_num (Str.ofString "value") (s.V j) (by assumption) (by assumption) ?_ fun h8 t8 tk8 gn8 hG8 F8 N8 => ?_
          · (try k_fold)
            k_steps
            refine num_mk (by assumption) (by assumption) (by assumption) ?_ ?_
            · walk_at "my_subs"
            · exact num_at hit (by omega) rfl
          · have hwl := octR_len s j
            have hwl2 := hw.length
            refine wpR_of ?_
            (try k_fold)
            k_steps
            all_goals (
              have F9 := ‹Fr g L _ _›
              have N9 : News g L _ ((_, listOf #[Value.int _ _, Value.int _ _] 0) :: (_, riObj _ _ 1) :: (_, listOf ws.toArray c') :: (R, listOf rvs.toArray rc) :: (B, listOf vs.toArray c) :: rest) := ‹News g L _ _›
              have lx := (‹_ < _ ∧ _ < _ ∧ R < _ ∧ B < _ ∧ AllLt _ rest›).2.1
              refine Own.iadd_listN (zs := [_, _]) F9 N9 (.head _) (fun c' => .tail ?_ (.tail ?_ (.head ?_))) ?_ ?_
              · exact fun e => Nat.ne_of_lt lx e.symm
              · exact Ne.symm hOI
              · exact List.forall_mem_cons.mpr ⟨hRO, List.forall_mem_cons.mpr ⟨hBO, hrO⟩⟩
              · simp only [List.length_cons, List.length_nil]
                omega
              · intro h9 c9 F10 N10
                (try k_fold)
                k_steps
                refine item_mk8 (by assumption) (by assumption) (mI_x rfl (by rw [hl8]; push_cast; omega) rfl rfl rfl rfl rfl) hw ?_ (by assumption)
                rw [hm4]
                simp only [outR, fmN _ _ (show (0 : Int) ≤ 192 by decide), fdN _ _ (show (0 : Int) ≤ 192 by decide)]
                first | rw [if_pos (show s.V j < 5952 by omega)] | rw [if_neg (show ¬ s.V j < 5952 by omega)]
                rfl)
        · intro u' ta' ws c' h7 tk7 gn7 F7 hw N7 hG7
          repeat (refine wpR_execs_nil ?_; (try dsimp only))
          (try dsimp only [mI, mW] at F7)
          refine wpR_of ?_
          (try k_fold)
          k_steps
          have lr := ‹_ < _ ∧ R < _ ∧ B < _ ∧ AllLt _ rest›
          exact read_mk1 (by assumption) (by assumption) hm4.symm (mW_x rfl (by omega) rfl rfl rfl) (Nat.ne_of_lt lr.2.1) hRO hr hw (by assumption)
end
section
variable {w : World} {mg mb : Str → Option Value} {bm : Addr} {ob : Obj}
theorem read13 (B R : Addr) (row : Int) (tr : Tok) (vs : List Value) (bits : List Int) (c rc : Nat) (rest : Led) (rvs : List Value) (runs : List RunD) (s : Rd) (a a1 a2 a3 : Nat) (ta : Tok) (u : Str → Option Value)
    (hI : IntsAre vs bits) (hlen : bits.length ≤ 1000) (hrow : row = 0 ∨ row = 1 ∨ row = 2) (hs : RdOk s) (hf : Found bits (row + 1) s a a1 a2 a3) (hR : ∀ q ∈ rest, q.1 ≠ R) (hBR : @Ne Nat B R) (hr : RunsIn rest rvs runs) (hrl : rvs.length ≤ 10) (hm4 : s.m = 13) :
    Walk w mg mb bm ob 322 (loopBody 2) (fun _ _ => True) (fun m news => m = mW B R row tr a ta u ∧ news = (R, listOf rvs.toArray rc) :: (B, listOf vs.toArray c) :: rest) (ReadQ B R row tr vs c rest runs s a3) := by
  w_on
  delta Walk
  k_fill
  refine' walk_of ?ho ?hb; (case ho => k_is)
  intro dp un gd fa L outer A₀ base g h₁ gn d' tk os m news C _ F N hpre hG hd' hu
  obtain ⟨rfl, rfl⟩ := hpre
  simp only [loopBody, List.drop_succ_cons, List.drop_zero]
  have X' := C.X
  have T' := C.T
  have B' := C.B
  have M' := C.M
  have hl0 := hf.le0
  refine step_num (Str.ofString "kind") 13 F N ?_ fun h2 t2 tk2 gn2 hG2 F2 N2 => ?_
  · (try k_fold)
    k_steps
    refine num_mk (by assumption) (by assumption) (by assumption) ?_ ?_
    · walk_at "my_subs"
    · exact num_at (hf.kind.trans hm4) (by omega) rfl
  · refine wpR_execs_app (l₁ := [_]) (l₂ := [_, _, _, _, _, _, _, _, _]) ?_
    dsimp only [mW] at F2
    have hl1 := hf.h1
    have hl2 := hf.h2
    have hl3 := hf.h3
    have hl4 := hf.le
    have hw8 := wid_big s.m (row + 1)
    rw [if_pos (by omega)] at hl1
    (try k_fold)
    k_steps
    refine step_num (Str.ofString "at") (a1 : Nat) (by assumption) (by assumption) ?_ fun h2 t2 tk2 gn2 hG2 F2 N2 => ?_
    · have h3 := hf.three hm4
      rw [show a + 4 = ((a : Int) + 4).toNat by omega] at h3
      (try k_fold)
      k_steps
      all_goals (first | (exfalso; contradiction) | skip)
      refine num_mk (by assumption) (by assumption) (by assumption) ?_ ?_
      · walk_at "my_subs"
      · omega
    refine wpR_execs_app (l₁ := [_]) (l₂ := [_, _, _, _, _, _, _]) ?_
    (try k_fold)
    k_steps
    refine step_num (Str.ofString "wide") (wid s.m (row + 1) : Nat) (by assumption) (by assumption) ?_ fun h3 t3 tk3 gn3 hG3 F3 N3 => ?_
    · (try k_fold)
      k_steps
      refine num_mk (by assumption) (by assumption) (by assumption) ?_ ?_
      · walk_at "my_subs"
      · rw [hm4]
        rcases hrow with rfl | rfl | rfl <;> rfl
    · refine step_num (Str.ofString "left") s.cnt F3 N3 ?_ fun h4 t4 tk4 gn4 hG4 F4 N4 => ?_
      · (try k_fold)
        k_steps
        refine num_mk (by assumption) (by assumption) (by assumption) ?_ ?_
        · walk_at "my_subs"
        · exact num_at hf.left (by omega) rfl
      · have hc99 := hs.2.1
        refine wpR_execs_app (l₁ := [_, _, _]) (l₂ := [_, _]) ?_
        (try k_fold)
        k_steps
        refine wpR_execs_cons (wpR_For ?_)
        (try k_fold)
        k_steps
        have F5 := ‹Fr g L _ _›
        have N5 := ‹News g L _ (_ :: _)›
        have hrg := ‹IsRange _ _ 0 _ 1 _ _ _›
        obtain ⟨_, hRO, hBO, hrO⟩ := ‹_ < _ ∧ R < _ ∧ B < _ ∧ AllLt _ rest›
        replace hRO := Nat.ne_of_lt hRO
        replace hBO := Nat.ne_of_lt hBO
        replace hrO := tbn_neAll hrO
        have hRB : @Ne Nat R B := fun e => hBR e.symm
        refine wpAny_pyIter_range hrg (small1 _ hc99) ?_
        rw [size1]
        have F6 := keep_fr F5 (h' := _) fun b' o e => Heap.get?_push_of_some (riObj 0 s.cnt 1) e
        have N6 := news_fresh F5 N5 (fun b' o e => Heap.get?_push_of_some (riObj 0 s.cnt 1) e) (Heap.get?_push_size _ rfl)
        refine forItems (R := R) (B := B) (row := row) (kd := 13) (tr := tr) (rvs := rvs) (vs := vs) (rc := rc) (c := c) (rest := rest) (sg := s) (a2 := a2) rfl rfl rfl F6 (mI_x rfl (by omega) rfl rfl rfl rfl rfl) N6 (fun q hq => Nat.ne_of_lt (Heap.lt_size (N5 q hq).1)) (by walk_at "my_subs") (by assumption) ?_ ?_
        · intro j t' ta' u' ws c' h7 tk7 gn7 hj hw F7 N7 hrI hOI hG7
          have hl8 : lng s.m = 13 := by rw [hm4]; rfl
          have hV := hs.2.2 j hj
          have hit := hf.item j hj
          rw [hl8] at F7 hl3 hit
          dsimp only [mI, mW] at F7
          refine wpR_execs_app (l₁ := [_]) (l₂ := [_, _, _]) ?_
          (try k_fold)
          k_steps
          refine step_num (Str.ofString "value") (s.V j) (by assumption) (by assumption) ?_ fun h8 t8 tk8 gn8 hG8 F8 N8 => ?_
          · (try k_fold)
            k_steps
            refine num_mk (by assumption) (by assumption) (by assumption) ?_ ?_
            · walk_at "my_subs"
            · exact num_at hit (by omega) rfl
          · have hwl := octR_len s j
            have hwl2 := hw.length
            refine wpR_of ?_
            (try k_fold)
            k_steps
            all_goals (
              have F9 := ‹Fr g L _ _›
              have N9 : News g L _ ((_, listOf #[Value.int _ _, Value.int _ _] 0) :: (_, riObj _ _ 1) :: (_, listOf ws.toArray c') :: (R, listOf rvs.toArray rc) :: (B, listOf vs.toArray c) :: rest) := ‹News g L _ _›
              have lx := (‹_ < _ ∧ _ < _ ∧ R < _ ∧ B < _ ∧ AllLt _ rest›).2.1
              refine Own.iadd_listN (zs := [_, _]) F9 N9 (.head _) (fun c' => .tail ?_ (.tail ?_ (.head ?_))) ?_ ?_
              · exact fun e => Nat.ne_of_lt lx e.symm
              · exact Ne.symm hOI
              · exact List.forall_mem_cons.mpr ⟨hRO, List.forall_mem_cons.mpr ⟨hBO, hrO⟩⟩
              · simp only [List.length_cons, List.length_nil]
                omega
              · intro h9 c9 F10 N10
                (try k_fold)
                k_steps
                refine item_mk8 (by assumption) (by assumption) (mI_x rfl (by rw [hl8]; push_cast; omega) rfl rfl rfl rfl rfl) hw ?_ (by assumption)
                rw [hm4]
                simp only [outR, fmN _ _ (show (0 : Int) ≤ 96 by decide), fdN _ _ (show (0 : Int) ≤ 96 by decide)]
                first | rw [if_pos (show s.V j < 960 by omega)] | rw [if_neg (show ¬ s.V j < 960 by omega)]
                rfl)
        · intro u' ta' ws c' h7 tk7 gn7 F7 hw N7 hG7
          repeat (refine wpR_execs_nil ?_; (try dsimp only))
          (try dsimp only [mI, mW] at F7)
          refine wpR_of ?_
          (try k_fold)
          k_steps
          have lr := ‹_ < _ ∧ R < _ ∧ B < _ ∧ AllLt _ rest›
          exact read_mk1 (by assumption) (by assumption) hm4.symm (mW_x rfl (by omega) rfl rfl rfl) (Nat.ne_of_lt lr.2.1) hRO hr hw (by assumption)
end
section
variable {w : World} {mg mb : Str → Option Value} {bm : Addr} {ob : Obj}
def whileI (g : Heap) (L : Addr) (d : Drawn) (os : OsState) (B R : Addr) (row : Int) (tr : Tok) (vs : List Value) (c : Nat) (segs : List Rd) (n : Nat) (s : Shared) : Prop :=
  ∃ (done todo : List Rd) (u : Str → Option Value) (ta : Tok) (rvs : List Value) (rc : Nat) (rest : Led), segs = done ++ todo ∧ n = todo.length ∧ Fr g L s.heap (mW B R row tr (done.flatMap (encR (row + 1))).length ta u) ∧
    News g L s.heap ((R, listOf rvs.toArray rc) :: (B, listOf vs.toArray c) :: rest) ∧ (∀ q ∈ rest, q.1 ≠ R) ∧ RunsIn rest rvs (done.map runR) ∧ AllBare s.gens ∧ s.drawn = d ∧ s.os = os
theorem whileI_0 {g h : Heap} {L : Addr} {d : Drawn} {os : OsState} {B R : Addr} {row : Int} {tr ta : Tok} {vs : List Value} {c : Nat} {segs : List Rd} {gn : Array GenState} {tk : Nat} {m : Str → Option Value} (F : Fr g L h m) (N : News g L h ((R, listOf #[] 0) :: (B, listOf vs.toArray c) :: []))
    (h1 : m (Str.ofString "at") = some (.int 0 ta)) (h2 : m (Str.ofString "runs") = some (.ref R)) (h3 : m (Str.ofString "row") = some (.int row tr)) (h4 : m (Str.ofString "bits") = some (.ref B)) (hG : AllBare gn) :
    whileI g L d os B R row tr vs c segs segs.length ⟨h, gn, d, tk, os⟩ :=
  ⟨[], segs, m, ta, [], 0, [], rfl, rfl, mW_x h1 rfl h2 h3 h4 ▸ F, N, (fun _ h => nomatch h), RunsIn.nil, hG, rfl, rfl⟩
def TestQ (b0 : Bool) (g : Heap) (L : Addr) (d : Drawn) (os : OsState) (gn : Array GenState) (m : Str → Option Value) (news : Led) (b : Bool) (s' : Shared) : Prop := b = b0 ∧ ∃ h tk, s' = ⟨h, gn, d, tk, os⟩ ∧ Fr g L h m ∧ News g L h news
theorem readQ_next {g : Heap} {L : Addr} {d : Drawn} {os : OsState} {B R : Addr} {row : Int} {tr : Tok} {vs : List Value} {c : Nat} {segs done todo : List Rd} {x : Rd} {rest : Led} {a : Nat} {f : Flow} {s' : Shared} (hst : segs = done ++ x :: todo)
    (h : ReadQ B R row tr vs c rest (done.map runR) x a g L d os f s') (hR : ∀ q ∈ rest, q.1 ≠ R) (ha : a = ((done ++ [x]).flatMap (encR (row + 1))).length) : f = .next ∧ ∃ m, m < (x :: todo).length ∧ whileI g L d os B R row tr vs c segs m s' := by
  obtain ⟨rfl, u, ta, rvs, rc, new, F, N, hn, hr, hG, hd, ho⟩ := h
  refine ⟨rfl, todo.length, by simp, done ++ [x], todo, u, ta, rvs, rc, new ++ rest, by rw [hst]; simp, rfl, ha ▸ F, N, fun q hq => ?_, ?_, hG, hd, ho⟩
  · rcases List.mem_append.mp hq with hq | hq
    · exact hn q hq
    · exact hR q hq
  · rw [List.map_append]; exact hr
theorem at_seg {bits : List Int} {vr : Int} {segs done todo : List Rd} {x : Rd} (hb : bits = segs.flatMap (encR vr)) (hst : segs = done ++ x :: todo) : At bits (done.flatMap (encR vr)).length (encR vr x) :=
  ⟨done.flatMap (encR vr), todo.flatMap (encR vr), by rw [hb, hst, List.flatMap_append, List.flatMap_cons], rfl⟩
theorem test_to {M : Model} {A : Around} {t : Sem Bool} {Q : Bool → Shared → Prop} {E : Value → Shared → Prop} {g h : Heap} {L : Addr} {d : Drawn} {os : OsState} {gn : Array GenState} {tk : Nat} {m : Str → Option Value} {news : Led} (b0 : Bool) (_ : Fr g L h m) (_ : News g L h news)
    (h1 : wpAny M A t (TestQ b0 g L d os gn m news) (fun _ _ => False) ⟨h, gn, d, tk, os⟩) (h2 : ∀ h' tk', Fr g L h' m → News g L h' news → Q b0 ⟨h', gn, d, tk', os⟩) : wpAny M A t Q E ⟨h, gn, d, tk, os⟩ :=
  wpAny_mono h1 (fun b s' ⟨hb, h', tk', hs, F, N⟩ => by subst hb; subst hs; exact h2 h' tk' F N) (fun _ _ z => z.elim)
theorem fnBody_is {K : Frag} {f : Addr} {name qual : Str} {params : Arguments} {body : List Stmt} {scope : Scope} {dV kV doc pm cdv ct oc : Value} {an od : Option Addr} {osl : Array (Option Value)}
    (ho : K.lookup f = some ⟨oc, od, .func (fnX name qual params body scope [] dV kV doc pm an cdv ct), osl⟩) : fnBody K f = some (body, scope, qual, cdv) := by unfold fnBody; rw [ho]
theorem read_turn (B R : Addr) (row : Int) (tr : Tok) (vs : List Value) (bits : List Int) (c rc : Nat) (rest : Led) (rvs : List Value) (runs : List RunD) (s : Rd) (a a1 a2 a3 : Nat) (ta : Tok) (u : Str → Option Value)
    (hI : IntsAre vs bits) (hlen : bits.length ≤ 1000) (hrow : row = 0 ∨ row = 1 ∨ row = 2) (hs : RdOk s) (hf : Found bits (row + 1) s a a1 a2 a3) (hR : ∀ q ∈ rest, q.1 ≠ R) (hBR : @Ne Nat B R) (hr : RunsIn rest rvs runs) (hrl : rvs.length ≤ 10) :
    Walk w mg mb bm ob 322 (loopBody 2) (fun _ _ => True) (fun m news => m = mW B R row tr a ta u ∧ news = (R, listOf rvs.toArray rc) :: (B, listOf vs.toArray c) :: rest) (ReadQ B R row tr vs c rest runs s a3) := by
  rcases hs.1 with hm | hm | hm
  · exact read4 B R row tr vs bits c rc rest rvs runs s a a1 a2 a3 ta u hI hlen hrow hs hf hR hBR hr hrl hm
  · exact read8 B R row tr vs bits c rc rest rvs runs s a a1 a2 a3 ta u hI hlen hrow hs hf hR hBR hr hrl hm
  · exact read13 B R row tr vs bits c rc rest rvs runs s a a1 a2 a3 ta u hI hlen hrow hs hf hR hBR hr hrl hm
theorem lread_spec (B : Addr) (row : Int) (tr : Tok) (vs : List Value) (bits : List Int) (c : Nat) (segs : List Rd) (hI : IntsAre vs bits) (hlen : bits.length ≤ 1000) (hrow : row = 0 ∨ row = 1 ∨ row = 2) (hs : ∀ s ∈ segs, RdOk s) (hb : bits = segs.flatMap (encR (row + 1))) (hsl : segs.length ≤ 10) :
    SPR w mg mb bm ob 15 200 322 [.ref B, .int row tr] [] [(B, listOf vs.toArray c)] (fun r nw => ∃ R rvs rc, r = .ref R ∧ (R, listOf (List.toArray rvs) rc) ∈ nw ∧ RunsIn nw rvs (segs.map runR)) := by
  walk_at "my_startR"
  intro dp un gd L outer A₀ base g h₁ gn d' tk os C F N hsub hG hdp hu
  have X' := C.X
  have T' := C.T
  have B' := C.B
  have M' := C.M
  have hturn := fun (R : Addr) (rc : Nat) rest rvs runs s a a1 a2 a3 ta u => read_turn (w := w) (mg := mg) (mb := mb) (bm := bm) (ob := ob) B R row tr vs bits c rc rest rvs runs s a a1 a2 a3 ta u hI hlen hrow
  (try dsimp only)
  refine wpR_execs_app (l₁ := [_, _]) (l₂ := [_, _]) ?_
  (try k_fold)
  k_steps
  have F0 := ‹Fr g L _ _›
  have N0 : News g L _ ((_, listOf #[] 0) :: (B, listOf vs.toArray c) :: []) := ‹News g L _ _›
  have hBR := Nat.ne_of_lt (‹B < _› : @LT.lt Nat _ B _)
  refine wpR_execs_cons (wpR_While ?_)
  refine codeR_whileLoop (whileI g L d' os B _ row tr vs c segs) ?_ segs.length (whileI_0 F0 N0 rfl rfl rfl rfl hG)
  · rintro n ⟨hh, gn2, d2, tk2, os2⟩ ⟨done, todo, u, ta, rvs, rc, rest, hst, hn, F1, N1, hR, hr, hG2, hd2, ho2⟩
    dsimp only at hd2 ho2 F1 N1 hG2
    subst hd2; subst ho2
    have hlr := hr.len
    have hbl := hI.length
    rcases todo with _ | ⟨x, todo⟩
    · refine test_to false F1 N1 ?_ fun h' tk' F2 N2 => ?_
      · have hal : (done.flatMap (encR (row + 1))).length = bits.length := by rw [hb, hst, List.append_nil]
        (try dsimp only [mW] at F1)
        (try k_fold)
        k_steps
        exact ⟨decide_eq_false (by omega), _, _, rfl, by assumption, by assumption⟩
      · simp only [Bool.false_eq_true, if_false]
        rw [List.append_nil] at hst
        subst hst
        repeat (refine wpR_execs_nil ?_; (try dsimp only))
        (try dsimp only [mW] at F2)
        refine wpR_of ?_
        (try k_fold)
        k_steps
        walk_at "my_ret"
        exact ⟨_, rvs, rc, rfl, by k_mem, hr.sub fun q hq => by simp [hq]⟩
    · have hat := at_seg hb hst
      have hx := hs x (by rw [hst]; simp)
      have hfd := found hx hat
      have hle := hfd.le0
      refine test_to true F1 N1 ?_ fun h' tk' F2 N2 => ?_
      · (try dsimp only [mW] at F1)
        (try k_fold)
        k_steps
        exact ⟨decide_eq_true (by omega), _, _, rfl, by assumption, by assumption⟩
      · simp only [if_true]
        have hfb := fnBody_is (K := hd.heap_39 w.params) (f := 322) (by k_is)
        refine wpR_mono (hturn _ _ _ _ _ _ _ _ _ _ _ _ hx hfd hR hBR hr (by rw [hlr, List.length_map]; have := congrArg List.length hst; simp at this; omega) _ _ _ _ hfb dp un gd 322 L outer A₀ base g h' gn2 d2 tk' os2 _ _ C trivial F2 N2 ⟨rfl, rfl⟩ hG2 (by omega) (by omega)) ?_ (fun _ _ z => False.elim z)
        · intro f s' hq
          obtain ⟨rfl, m', hm', hI'⟩ := readQ_next hst hq hR (by simp)
          exact ⟨m', by rw [hn]; exact hm', hI'⟩
end
end
section
local macro_rules | `(tactic| walk_at "getAttr ref") => `(tactic| (k_here; (with_reducible show wpAny _ _ (getAttr (Value.ref _) (PySem.Str.ofString "bits") _) _ _ _); refine' get_seg_bits ?c ?f ?n ?h1 ?h2 ?g ?d ?u ?k ?v ?_; (case c => assumption); (case f => k_asm); (case n => k_asm); (case h1 => k_mem); (case h2 => k_mem); (case g => assumption); (case d => omega); (case u => omega); (case k => rfl); (case v => rfl); intro h' tk' g' F' N' G'))
local macro_rules | `(tactic| walk_at "getAttr ref") => `(tactic| (k_here; (with_reducible show wpAny _ _ (getAttr (Value.ref _) (PySem.Str.ofString "mode") _) _ _ _); refine' get_seg_mode ?c ?f ?n ?h1 ?h2 ?g ?d ?u ?k ?v ?_; (case c => assumption); (case f => k_asm); (case n => k_asm); (case h1 => k_mem); (case h2 => k_mem); (case g => assumption); (case d => omega); (case u => omega); (case k => rfl); (case v => rfl); intro h' tk' g' F' N' G'))
local macro_rules | `(tactic| walk_at "getAttr ref") => `(tactic| (k_here; (with_reducible show wpAny _ _ (getAttr (Value.ref _) (PySem.Str.ofString "char_count") _) _ _ _); refine' get_seg_count ?c ?f ?n ?h1 ?h2 ?g ?d ?u ?k ?v ?_; (case c => assumption); (case f => k_asm); (case n => k_asm); (case h1 => k_mem); (case h2 => k_mem); (case g => assumption); (case d => omega); (case u => omega); (case k => rfl); (case v => rfl); intro h' tk' g' F' N' G'))
local macro_rules | `(tactic| walk_at "call builtin:len") => `(tactic| (k_here; (with_reducible show wpAny _ _ (call (Value.builtin "len") [Value.ref _]) _ _ _); refine' Own.len_baN ?n ?m ?z ?_; (case n => k_asm); (case m => k_mem); (case z => (rw [sizeLine_eq]; omega)); (try intro _ _)))
local macro_rules | `(tactic| k_upd) => `(tactic| first | (refine' Upd.head ?a; (case a => (repeat (first | exact List.forall_mem_nil _ | assumption | refine List.forall_mem_cons.mpr ⟨by walk_at "my_ne1", ?_⟩)))) | (refine' Upd.tail ?a ?b; (case a => walk_at "my_ne1"); (case b => k_upd)))
local macro_rules | `(tactic| walk_at "my_subs") => `(tactic| ((repeat (refine List.forall_mem_cons.mpr ⟨by k_mem, ?_⟩)); first | exact List.forall_mem_nil _ | (intro q hq; repeat (first | exact hq | refine List.mem_cons_of_mem _ ?_))))
local macro_rules | `(tactic| walk_at "my_ne1") => `(tactic| ((try dsimp only); k_dflt (refine neN ?_); first | assumption | (refine Ne.symm ?_; assumption)))
section
variable {w : World} {mg mb : Str → Option Value} {bm : Addr} {ob : Obj}
theorem keep4 {D O DU CT : Addr} (b : Array UInt8) (tb : Tok) (kb hbz : Bool) (ws vo cs ds : List Value) (cO c1 c2 : Nat) (ps : Array Value) (rest : Led) (t : Tok) (u : Str → Option Value) (n : Nat) (hb : b.size = 2 * n) (hn0 : 0 < n) (hn : n ≤ 8) (hc : ∀ i, i < n → 161 ≤ (b.getD (2 * i + 1) 0).toNat)
    (hg : Good b n 4) (hps : TriplesOk ps.toList) (ov : List Int) (hIo : IntsAre vo ov) (hvo : ov.length = 2 * n) (hcl : cs.length ≤ 10) (hdl : ds.length ≤ 10) (h1 : @LT.lt Nat _ D O) (h2 : @LT.lt Nat _ O DU) (h3 : @LT.lt Nat _ DU CT) (hrC : ∀ q ∈ rest, q.1 ≠ CT) (hrD : ∀ q ∈ rest, q.1 ≠ DU) (hr8 : ∀ q ∈ rest, q.1 ≠ 268) :
    Walk w mg mb bm ob 327 (loopBody 13) (fun _ _ => True) (KeepPre D O DU CT b tb kb hbz ws vo cs ds cO c1 c2 ps rest 4 t u true) (KeepQ D O DU CT b tb kb hbz ws vo cs ds cO rest 4 t) := by
  w_on
  delta Walk
  k_fill
  refine' walk_of ?ho ?hb; (case ho => k_is)
  intro dp un gd fa L outer A₀ base g h₁ gn d' tk os m news C _ F N hpre hG hd' hu
  obtain ⟨rfl, rfl⟩ := hpre
  simp only [loopBody, List.drop_succ_cons, List.drop_zero]
  have X' := C.X
  have T' := C.T
  have B' := C.B
  have M' := C.M
  dsimp only [mL] at F
  simp only [lLed, List.cons_append, List.nil_append] at N
  refine wpR_execs_cons (wpR_Try ?_)
  refine wpR_execs_cons (wpR_Assign_Name (wpR_CallName ?_))
  (try k_fold)
  k_steps
  refine wpR_callK (K := Mine02.hd.heap_39 w.params) (by k_is) ?_
  (try k_fold)
  k_steps
  (try dsimp only [List.cons_append, List.nil_append])
  refine Own.SpecR.use (mkseg_keep b n hb hn0 hn hc 4 hg tb t ps hps [.bytes b tb, .int 4 t] (.inl rfl)) C F N rfl (by walk_at "my_subs") hG (by omega) (by omega) fun v5 nw5 h5 tk5 g5 hP5 F5 N5' hap5 G5 => ?_
  obtain ⟨⟨sx, sdx, sdd, stc, stm, se, scount, smode, sbits⟩, ps2, rfl, hmode, hsok, hps2, hq5⟩ := hP5
  dsimp only at hmode
  subst hmode
  have N6 := led_after N hr8 hq5 N5'
  simp only [lLed, Sg.led, List.cons_append, List.nil_append] at N6
  obtain ⟨hbits, hcount, _, _⟩ := hsok
  dsimp only at hbits hcount N6
  clear N N5' hap5 F hG
  (try dsimp only)
  (try k_fold)
  k_steps
  refine wpR_execs_nil ?_
  dsimp only
  refine wpR_execs_nil ?_
  dsimp only
  have hblen := segBits_len hb 4
  rw [← hbits] at hblen
  have hbl : ((sbits.length : Nat) : Int) = 8 * (ov.length : Nat) := by rw [hbits]; show (((segBits b n 4).length : Nat) : Int) = _; rw [segBits_len4 hb, hvo]; push_cast; omega
  have hcn : scount = ((ov.length : Nat) : Int) := by rw [hcount, hvo]; rfl
  have F7 := ‹Fr g L _ _›
  have N7 := ‹News g L _ _›
  refine steps_num (l₁ := [_, _]) (l₂ := [_, _]) (Str.ofString "count") (segCount n 4) F7 (news_sub N7 (by walk_at "my_subs") : News g L _ ((CT, listOf cs.toArray c1) :: (DU, listOf ds.toArray c2) :: (O, listOf vo.toArray cO) :: (D, listOf ws.toArray 0) :: (268, X.tableObj ps2) :: rest)) ?_ fun h8 t8 tk8 gn8 hG8 F8 N8 => ?_
  · (try k_fold)
    k_steps
    · refine num_mk (by assumption) (by assumption) (by assumption) ?_ ?_
      · walk_at "my_subs"
      · rw [← hcn]; exact hcount
    · exfalso
      have hz := ‹(_ && _) = false›
      rw [hcn, hbl] at hz
      simp at hz
  · clear N7 F7
    have hDC : @Ne Nat DU CT := Nat.ne_of_lt h3
    have hOD : @Ne Nat O DU := Nat.ne_of_lt h2
    have hOC : @Ne Nat O CT := Nat.ne_of_lt (Nat.lt_trans h2 h3)
    have hDD : @Ne Nat D DU := Nat.ne_of_lt (Nat.lt_trans h1 h2)
    have hDC2 : @Ne Nat D CT := Nat.ne_of_lt (Nat.lt_trans h1 (Nat.lt_trans h2 h3))
    have hC8 := news_ne N8 (a := CT) (b := 268) (by k_mem) (by k_mem) (by intro h; cases h)
    have hD8 := news_ne N8 (a := DU) (b := 268) (by k_mem) (by k_mem) (by intro h; cases h)
    refine wpR_of ?_
    (try k_fold)
    k_steps
    refine keep_mk ‹Fr g L _ _› hps2 ?_ ?_ ‹News g L _ _› (mL_of rfl rfl rfl rfl rfl rfl rfl) (by assumption)
    · have hz := (‹_ < _ ∧ CT < _ ∧ DU < _ ∧ O < _ ∧ D < _ ∧ 268 < _ ∧ AllLt _ rest›)
      exact ⟨hz.2.1, hz.2.2.2.2.2.1⟩
    · have hz := (‹CT < _ ∧ DU < _ ∧ O < _ ∧ D < _ ∧ 268 < _ ∧ AllLt _ rest›)
      exact ⟨hz.1, hz.2.2.2.2.1⟩
end
section
variable {w : World} {mg mb : Str → Option Value} {bm : Addr} {ob : Obj}
theorem keep8 {D O DU CT : Addr} (b : Array UInt8) (tb : Tok) (kb hbz : Bool) (ws vo cs ds : List Value) (cO c1 c2 : Nat) (ps : Array Value) (rest : Led) (t : Tok) (u : Str → Option Value) (n : Nat) (hb : b.size = 2 * n) (hn0 : 0 < n) (hn : n ≤ 8) (hc : ∀ i, i < n → 161 ≤ (b.getD (2 * i + 1) 0).toNat)
    (hg : Good b n 8) (hps : TriplesOk ps.toList) (ov : List Int) (hIo : IntsAre vo ov) (hvo : ov.length = 2 * n) (hcl : cs.length ≤ 10) (hdl : ds.length ≤ 10) (h1 : @LT.lt Nat _ D O) (h2 : @LT.lt Nat _ O DU) (h3 : @LT.lt Nat _ DU CT) (hrC : ∀ q ∈ rest, q.1 ≠ CT) (hrD : ∀ q ∈ rest, q.1 ≠ DU) (hr8 : ∀ q ∈ rest, q.1 ≠ 268) :
    Walk w mg mb bm ob 327 (loopBody 13) (fun _ _ => True) (KeepPre D O DU CT b tb kb hbz ws vo cs ds cO c1 c2 ps rest 8 t u true) (KeepQ D O DU CT b tb kb hbz ws vo cs ds cO rest 8 t) := by
  w_on
  delta Walk
  k_fill
  refine' walk_of ?ho ?hb; (case ho => k_is)
  intro dp un gd fa L outer A₀ base g h₁ gn d' tk os m news C _ F N hpre hG hd' hu
  obtain ⟨rfl, rfl⟩ := hpre
  simp only [loopBody, List.drop_succ_cons, List.drop_zero]
  have X' := C.X
  have T' := C.T
  have B' := C.B
  have M' := C.M
  dsimp only [mL] at F
  simp only [lLed, List.cons_append, List.nil_append] at N
  refine wpR_execs_cons (wpR_Try ?_)
  refine wpR_execs_cons (wpR_Assign_Name (wpR_CallName ?_))
  (try k_fold)
  k_steps
  refine wpR_callK (K := Mine02.hd.heap_39 w.params) (by k_is) ?_
  (try k_fold)
  k_steps
  (try dsimp only [List.cons_append, List.nil_append])
  refine Own.SpecR.use (mkseg_keep b n hb hn0 hn hc 8 hg tb t ps hps [.bytes b tb,   .int 8 t] (.inl rfl)) C F N rfl (by walk_at "my_subs") hG (by omega) (by omega) fun v5 nw5 h5 tk5 g5 hP5 F5 N5' hap5 G5 => ?_
  obtain ⟨⟨sx, sdx, sdd, stc, stm, se, scount, smode, sbits⟩, ps2, rfl, hmode, hsok, hps2, hq5⟩ := hP5
  dsimp only at hmode
  subst hmode
  have N6 := led_after N hr8 hq5 N5'
  simp only [lLed, Sg.led, List.cons_append, List.nil_append] at N6
  obtain ⟨hbits, hcount, _, _⟩ := hsok
  dsimp only at hbits hcount N6
  clear N N5' hap5 F hG
  (try dsimp only)
  (try k_fold)
  k_steps
  refine wpR_execs_nil ?_
  dsimp only
  refine wpR_execs_nil ?_
  dsimp only
  have hblen := segBits_len hb 8
  rw [← hbits] at hblen
  have hbl : ((sbits.length : Nat) : Int) = 13 * (n : Nat) := by rw [hbits]; show (((segBits b n 8).length : Nat) : Int) = _; rw [segBits_lenK (by decide)]; push_cast; omega
  have hcn : scount = (n : Nat) := hcount
  have hof : (((ov.length : Nat) : Int)).fdiv 2 = (n : Nat) := by rw [fdN _ _ (by decide), hvo]; push_cast; omega
  have F7 := ‹Fr g L _ _›
  have N7 := ‹News g L _ _›
  refine steps_num (l₁ := [_, _]) (l₂ := [_, _]) (Str.ofString "count") (segCount n 8) F7 (news_sub N7 (by walk_at "my_subs") : News g L _ ((CT, listOf cs.toArray c1) :: (DU, listOf ds.toArray c2) :: (O, listOf vo.toArray cO) :: (D, listOf ws.toArray 0) :: (268, X.tableObj ps2) :: rest)) ?_ fun h8 t8 tk8 gn8 hG8 F8 N8 => ?_
  · (try k_fold)
    k_steps
    · refine num_mk (by assumption) (by assumption) (by assumption) ?_ ?_
      · walk_at "my_subs"
      · rw [hof]; rfl
    · exfalso
      have hz := ‹(_ && _) = false›
      rw [hcn, hbl, hof] at hz
      simp at hz
  · clear N7 F7
    have hDC : @Ne Nat DU CT := Nat.ne_of_lt h3
    have hOD : @Ne Nat O DU := Nat.ne_of_lt h2
    have hOC : @Ne Nat O CT := Nat.ne_of_lt (Nat.lt_trans h2 h3)
    have hDD : @Ne Nat D DU := Nat.ne_of_lt (Nat.lt_trans h1 h2)
    have hDC2 : @Ne Nat D CT := Nat.ne_of_lt (Nat.lt_trans h1 (Nat.lt_trans h2 h3))
    have hC8 := news_ne N8 (a := CT) (b := 268) (by k_mem) (by k_mem) (by intro h; cases h)
    have hD8 := news_ne N8 (a := DU) (b := 268) (by k_mem) (by k_mem) (by intro h; cases h)
    refine wpR_of ?_
    (try k_fold)
    k_steps
    refine keep_mk ‹Fr g L _ _› hps2 ?_ ?_ ‹News g L _ _› (mL_of rfl rfl rfl rfl rfl rfl rfl) (by assumption)
    · have hz := (‹_ < _ ∧ CT < _ ∧ DU < _ ∧ O < _ ∧ D < _ ∧ 268 < _ ∧ AllLt _ rest›)
      exact ⟨hz.2.1, hz.2.2.2.2.2.1⟩
    · have hz := (‹CT < _ ∧ DU < _ ∧ O < _ ∧ D < _ ∧ 268 < _ ∧ AllLt _ rest›)
      exact ⟨hz.1, hz.2.2.2.2.1⟩
end
section
variable {w : World} {mg mb : Str → Option Value} {bm : Addr} {ob : Obj}
theorem keep13 {D O DU CT : Addr} (b : Array UInt8) (tb : Tok) (kb hbz : Bool) (ws vo cs ds : List Value) (cO c1 c2 : Nat) (ps : Array Value) (rest : Led) (t : Tok) (u : Str → Option Value) (n : Nat) (hb : b.size = 2 * n) (hn0 : 0 < n) (hn : n ≤ 8) (hc : ∀ i, i < n → 161 ≤ (b.getD (2 * i + 1) 0).toNat)
    (hg : Good b n 13) (hps : TriplesOk ps.toList) (ov : List Int) (hIo : IntsAre vo ov) (hvo : ov.length = 2 * n) (hcl : cs.length ≤ 10) (hdl : ds.length ≤ 10) (h1 : @LT.lt Nat _ D O) (h2 : @LT.lt Nat _ O DU) (h3 : @LT.lt Nat _ DU CT) (hrC : ∀ q ∈ rest, q.1 ≠ CT) (hrD : ∀ q ∈ rest, q.1 ≠ DU) (hr8 : ∀ q ∈ rest, q.1 ≠ 268) :
    Walk w mg mb bm ob 327 (loopBody 13) (fun _ _ => True) (KeepPre D O DU CT b tb kb hbz ws vo cs ds cO c1 c2 ps rest 13 t u true) (KeepQ D O DU CT b tb kb hbz ws vo cs ds cO rest 13 t) := by
  w_on
  delta Walk
  k_fill
  refine' walk_of ?ho ?hb; (case ho => k_is)
  intro dp un gd fa L outer A₀ base g h₁ gn d' tk os m news C _ F N hpre hG hd' hu
  obtain ⟨rfl, rfl⟩ := hpre
  simp only [loopBody, List.drop_succ_cons, List.drop_zero]
  have X' := C.X
  have T' := C.T
  have B' := C.B
  have M' := C.M
  dsimp only [mL] at F
  simp only [lLed, List.cons_append, List.nil_append] at N
  refine wpR_execs_cons (wpR_Try ?_)
  refine wpR_execs_cons (wpR_Assign_Name (wpR_CallName ?_))
  (try k_fold)
  k_steps
  refine wpR_callK (K := Mine02.hd.heap_39 w.params) (by k_is) ?_
  (try k_fold)
  k_steps
  (try dsimp only [List.cons_append, List.nil_append])
  refine Own.SpecR.use (mkseg_keep b n hb hn0 hn hc 13 hg tb t ps hps [.bytes b tb,   .int 13 t] (.inl rfl)) C F N rfl (by walk_at "my_subs") hG (by omega) (by omega) fun v5 nw5 h5 tk5 g5 hP5 F5 N5' hap5 G5 => ?_
  obtain ⟨⟨sx, sdx, sdd, stc, stm, se, scount, smode, sbits⟩, ps2, rfl, hmode, hsok, hps2, hq5⟩ := hP5
  dsimp only at hmode
  subst hmode
  have N6 := led_after N hr8 hq5 N5'
  simp only [lLed, Sg.led, List.cons_append, List.nil_append] at N6
  obtain ⟨hbits, hcount, _, _⟩ := hsok
  dsimp only at hbits hcount N6
  clear N N5' hap5 F hG
  (try dsimp only)
  (try k_fold)
  k_steps
  refine wpR_execs_nil ?_
  dsimp only
  refine wpR_execs_nil ?_
  dsimp only
  have hblen := segBits_len hb 13
  rw [← hbits] at hblen
  have hbl : ((sbits.length : Nat) : Int) = 13 * (n : Nat) := by rw [hbits]; show (((segBits b n 13).length : Nat) : Int) = _; rw [segBits_lenK (by decide)]; push_cast; omega
  have hcn : scount = (n : Nat) := hcount
  have hof : (((ov.length : Nat) : Int)).fdiv 2 = (n : Nat) := by rw [fdN _ _ (by decide), hvo]; push_cast; omega
  have F7 := ‹Fr g L _ _›
  have N7 := ‹News g L _ _›
  refine steps_num (l₁ := [_, _]) (l₂ := [_, _]) (Str.ofString "count") (segCount n 13) F7 (news_sub N7 (by walk_at "my_subs") : News g L _ ((CT, listOf cs.toArray c1) :: (DU, listOf ds.toArray c2) :: (O, listOf vo.toArray cO) :: (D, listOf ws.toArray 0) :: (268, X.tableObj ps2) :: rest)) ?_ fun h8 t8 tk8 gn8 hG8 F8 N8 => ?_
  · (try k_fold)
    k_steps
    · refine num_mk (by assumption) (by assumption) (by assumption) ?_ ?_
      · walk_at "my_subs"
      · rw [hof]; rfl
    · exfalso
      have hz := ‹(_ && _) = false›
      rw [hcn, hbl, hof] at hz
      simp at hz
  · clear N7 F7
    have hDC : @Ne Nat DU CT := Nat.ne_of_lt h3
    have hOD : @Ne Nat O DU := Nat.ne_of_lt h2
    have hOC : @Ne Nat O CT := Nat.ne_of_lt (Nat.lt_trans h2 h3)
    have hDD : @Ne Nat D DU := Nat.ne_of_lt (Nat.lt_trans h1 h2)
    have hDC2 : @Ne Nat D CT := Nat.ne_of_lt (Nat.lt_trans h1 (Nat.lt_trans h2 h3))
    have hC8 := news_ne N8 (a := CT) (b := 268) (by k_mem) (by k_mem) (by intro h; cases h)
    have hD8 := news_ne N8 (a := DU) (b := 268) (by k_mem) (by k_mem) (by intro h; cases h)
    refine wpR_of ?_
    (try k_fold)
    k_steps
    refine keep_mk ‹Fr g L _ _› hps2 ?_ ?_ ‹News g L _ _› (mL_of rfl rfl rfl rfl rfl rfl rfl) (by assumption)
    · have hz := (‹_ < _ ∧ CT < _ ∧ DU < _ ∧ O < _ ∧ D < _ ∧ 268 < _ ∧ AllLt _ rest›)
      exact ⟨hz.2.1, hz.2.2.2.2.2.1⟩
    · have hz := (‹CT < _ ∧ DU < _ ∧ O < _ ∧ D < _ ∧ 268 < _ ∧ AllLt _ rest›)
      exact ⟨hz.1, hz.2.2.2.2.1⟩
end
section
variable {w : World} {mg mb : Str → Option Value} {bm : Addr} {ob : Obj}
theorem drop_turn {D O DU CT : Addr} (b : Array UInt8) (tb : Tok) (kb hbz : Bool) (ws vo cs ds : List Value) (cO c1 c2 : Nat) (ps : Array Value) (rest : Led) (m : Int) (hm : m = 1 ∨ m = 2 ∨ m = 8 ∨ m = 13) (t : Tok) (u : Str → Option Value) (n : Nat) (hb : b.size = 2 * n) (hn0 : 0 < n) (hn : n ≤ 8) (hc : ∀ i, i < n → 161 ≤ (b.getD (2 * i + 1) 0).toNat)
    (hg : ¬ Good b n m) (hps : TriplesOk ps.toList) (hr8 : ∀ q ∈ rest, q.1 ≠ 268) :
    WalkL w mg mb bm ob 327 (loopBody 13) (KeepPre D O DU CT b tb kb hbz ws vo cs ds cO c1 c2 ps rest m t u false) (DropQ D O DU CT b tb kb hbz ws vo cs ds cO c1 c2 rest) := by
  w_on
  delta WalkL
  k_fill
  refine' walkL_of ?ho ?hb; (case ho => k_is)
  intro dp un gd fa L outer A₀ g h₁ gn d' tk os mm news C F N hpre hG hd' hu
  obtain ⟨rfl, rfl⟩ := hpre
  simp only [loopBody, List.drop_succ_cons, List.drop_zero]
  have X' := C.X
  have T' := C.T
  have B' := C.B
  have M' := C.M
  have N0 := N
  have F0 := F
  dsimp only [mL] at F
  simp only [lLed, List.cons_append, List.nil_append] at N
  refine wpR_execs_cons (wpR_Try ?_)
  refine wpR_execs_cons (wpR_Assign_Name (wpR_CallName ?_))
  (try k_fold)
  k_steps
  refine wpR_callK (K := Mine02.hd.heap_39 w.params) (by k_is) ?_
  (try k_fold)
  k_steps
  (try dsimp only [List.cons_append, List.nil_append])
  refine Own.SpecX.use (mkseg_bad b n hb hn0 hn hc m hm hg tb t ps hps) C F N rfl (by walk_at "my_subs") hG (by omega) (by omega) (fun v nw h' tk' g' hP => hP.elim) fun e cls nw5 h5 tk5 g5 hPE hR hU hG5 => ?_
  obtain ⟨rfl, ps2, hps2, hq5⟩ := hPE
  have hR2 := hR (lLed D O DU CT ws vo cs ds cO c1 c2 ps2 ++ rest) (drop_led N0 hr8 hq5)
  clear hR
  have K0 : Below ⟨none, dp, some outer, gd, un⟩ g outer g := ⟨rfl, B'.stays, B'.frames⟩
  refine caught_N0 (T' := "ValueError") K0 (fr_hide F N) hU hR2 C.T PyProof.Rows.Boot.«ValueError» PySem.F.isExc_ValueError PySem.F.notTuple_ValueError (by rw [isSubtype_type]; kernel_rfl) (fun h6 F6 N6 => ?_)
  dsimp only
  (try k_fold)
  k_steps
  exact drop_mk F6 (mL_of rfl rfl rfl rfl rfl rfl rfl) hps2 N6 hG5
end
section
variable {w : World} {mg mb : Str → Option Value} {bm : Addr} {ob : Obj}
theorem iterL {prog : Program} {w : World} {A : Around} {E : Value → Shared → Prop} {Q : Value → Shared → Prop} {g : Heap} {L l : Addr} {m : Str → Option Value} {its : Array Value} {c : Nat} {news : Led} {s : Shared} (F : Fr g L s.heap m) (N : News g L s.heap ((l, listOf its c) :: news))
    (h : ∀ (I : Addr) (h' : Heap), Fr g L h' m → News g L h' ((I, liObj l 0) :: (l, listOf its c) :: news) → (∀ q ∈ (l, listOf its c) :: news, @LT.lt Nat _ q.1 I) → Q (.ref I) { s with heap := h' }) : wpAny (model prog w) A (pyIter (.ref l)) Q E s := by
  refine wpAny_pyIter_list (Own.isList_of (N _ (.head _)).1) ?_
  exact h _ _ (keep_fr F fun b' o e => Heap.get?_push_of_some (liObj l 0) e) (news_fresh F N (fun b' o e => Heap.get?_push_of_some (liObj l 0) e) (Heap.get?_push_size _ rfl)) fun q hq => Heap.lt_size (N q hq).1
def kGood (kb hb : Bool) (m : Int) : Bool := m = 4 || (m = 8 && kb) || (m = 13 && hb)
/-- the kinds kept among the first i -/
def kms (kb hb : Bool) (i : Nat) : List Int := ([1, 2, 8, 13, 4].take i).filter (kGood kb hb)
def K14 (D O DU CT : Addr) (b : Array UInt8) (tb : Tok) (kb hb : Bool) (ws vo : List Value) (cO : Nat) (octs : List Int) (ms : List Int) (must : Led) (m₁ : Str → Option Value) (news₁ : Led) : Prop :=
  ∃ (u : Str → Option Value) (cs ds : List Value) (c1 c2 : Nat) (ps' : Array Value) (rest : Led) (ts : List Tp), m₁ = mL D O DU CT b tb kb hb u ∧ news₁ = lLed D O DU CT ws vo cs ds cO c1 c2 ps' ++ rest ∧ TriplesOk ps'.toList ∧
    (∀ q ∈ rest, @LT.lt Nat _ CT q.1 ∧ @LT.lt Nat _ 268 q.1) ∧ (∀ q ∈ must, q ∈ rest) ∧ cs = ts.map (fun z => .ref z.1) ∧ (∀ q ∈ tpLed b tb ts, q ∈ rest) ∧ ts.map (·.2.1) = ms ∧
    RunsIn ((O, listOf vo.toArray cO) :: rest) ds (ms.map fun m => (m, octs))
theorem k14_keep {D O DU CT I : Addr} {b : Array UInt8} {tb t : Tok} {kb hb : Bool} {ws vo : List Value} {cO : Nat} {octs ms : List Int} {must rest : Led} {m : Int} {g : Heap} {L : Addr} {d : Drawn} {os : OsState} {f : Flow} {s' : Shared} {cs ds : List Value} {ts : List Tp} {ob : Obj} {c1 c2 : Nat} {ps' : Array Value}
    (h : KeepQ D O DU CT b tb kb hb ws vo cs ds cO ((I, ob) :: rest) m t g L d os f s') (hb1 : ∀ q ∈ rest, @LT.lt Nat _ CT q.1 ∧ @LT.lt Nat _ 268 q.1) (hm : ∀ q ∈ must, q ∈ rest) (hcs : cs = ts.map (fun z => .ref z.1)) (htp : ∀ q ∈ tpLed b tb ts, q ∈ rest) (hms : ts.map (·.2.1) = ms)
    (hr : RunsIn ((O, listOf vo.toArray cO) :: rest) ds (ms.map fun m => (m, octs))) (hI : IntsAre vo octs) (hap : ∀ q ∈ lLed D O DU CT ws vo cs ds cO c1 c2 ps' ++ rest, q.1 ≠ I) (hob : ob.cls = .type "list_iterator") :
    f = .next ∧ ∃ m₂ news₂, K14 D O DU CT b tb kb hb ws vo cO octs (ms ++ [m]) must m₂ news₂ ∧ (∀ q ∈ news₂, q.1 ≠ I) ∧ Fr g L s'.heap m₂ ∧ News g L s'.heap ((I, ob) :: news₂) ∧ AllBare s'.gens ∧ s'.drawn = d ∧ s'.os = os := by
  obtain ⟨rfl, u, T, D1, tm, c1', c2', c3, ps2, F, hps, hT, hD1, N, hG, hd, ho⟩ := h
  have hTI : @Ne Nat T I := news_ne N (show (T, tupObj [.bytes b tb, .int m t]) ∈ _ by simp) (show (I, ob) ∈ _ by simp) (by rw [hob]; simp)
  have hDI : @Ne Nat D1 I := news_ne N (show (D1, listOf #[.int m tm, .ref O] c3) ∈ _ by simp) (show (I, ob) ∈ _ by simp) (by rw [hob]; simp)
  refine ⟨rfl, _, lLed D O DU CT ws vo (cs ++ [.ref T]) (ds ++ [.ref D1]) cO c1' c2' ps2 ++ ((T, tupObj [.bytes b tb, .int m t]) :: (D1, listOf #[.int m tm, .ref O] c3) :: rest), ⟨u, _, _, c1', c2', ps2, _, ts ++ [(T, m, t)], rfl, rfl, hps, ?_, ?_, ?_, ?_, ?_, ?_⟩, ?_, F, ?_, hG, hd, ho⟩
  · intro q hq
    rcases List.mem_cons.mp hq with rfl | hq
    · exact hT
    · rcases List.mem_cons.mp hq with rfl | hq
      · exact hD1
      · exact hb1 q hq
  · exact fun q hq => .tail _ (.tail _ (hm q hq))
  · rw [hcs]; simp
  · intro q hq
    simp only [tpLed, List.map_append, List.map_cons, List.map_nil, List.mem_append, List.mem_singleton] at hq
    rcases hq with hq | rfl
    · exact .tail _ (.tail _ (htp q hq))
    · exact .head _
  · simp [hms]
  · rw [List.map_append]
    refine RunsIn.snoc (r := (m, octs)) (hr.sub fun q hq => ?_) (t := tm) (o := O) (c := c3) (ws := vo) (c' := cO) (by simp) (by simp) hI
    rcases List.mem_cons.mp hq with rfl | hq
    · exact .head _
    · exact .tail _ (.tail _ (.tail _ hq))
  · intro q hq
    simp only [lLed, List.cons_append, List.nil_append, List.mem_cons] at hq hap
    rcases hq with rfl | rfl | rfl | rfl | rfl | rfl | rfl | hq
    · exact hap (CT, listOf cs.toArray c1) (by simp)
    · exact hap (DU, listOf ds.toArray c2) (by simp)
    · exact hap (O, listOf vo.toArray cO) (by simp)
    · exact hap (D, listOf ws.toArray 0) (by simp)
    · exact hap (268, X.tableObj ps') (by simp)
    · exact hTI
    · exact hDI
    · exact hap q (by simp [hq])
  · refine news_sub N fun q hq => ?_
    simp only [lLed, List.cons_append, List.nil_append, List.mem_cons] at hq ⊢
    rcases hq with h | h | h | h | h | h | h | h | h <;> simp [h]
theorem k14_drop {D O DU CT I : Addr} {b : Array UInt8} {tb : Tok} {kb hb : Bool} {ws vo : List Value} {cO : Nat} {octs ms : List Int} {must rest : Led} {g : Heap} {L : Addr} {d : Drawn} {os : OsState} {f : Flow} {s' : Shared} {cs ds : List Value} {ts : List Tp} {ob : Obj} {c1 c2 : Nat} {ps' : Array Value}
    (h : DropQ D O DU CT b tb kb hb ws vo cs ds cO c1 c2 ((I, ob) :: rest) g L d os f s') (hb1 : ∀ q ∈ rest, @LT.lt Nat _ CT q.1 ∧ @LT.lt Nat _ 268 q.1) (hm : ∀ q ∈ must, q ∈ rest) (hcs : cs = ts.map (fun z => .ref z.1)) (htp : ∀ q ∈ tpLed b tb ts, q ∈ rest) (hms : ts.map (·.2.1) = ms)
    (hr : RunsIn ((O, listOf vo.toArray cO) :: rest) ds (ms.map fun m => (m, octs))) (hap : ∀ q ∈ lLed D O DU CT ws vo cs ds cO c1 c2 ps' ++ rest, q.1 ≠ I) :
    f = .cont ∧ ∃ m₂ news₂, K14 D O DU CT b tb kb hb ws vo cO octs ms must m₂ news₂ ∧ (∀ q ∈ news₂, q.1 ≠ I) ∧ Fr g L s'.heap m₂ ∧ News g L s'.heap ((I, ob) :: news₂) ∧ AllBare s'.gens ∧ s'.drawn = d ∧ s'.os = os := by
  obtain ⟨rfl, u, ps2, F, hps, N, hG, hd, ho⟩ := h
  refine ⟨rfl, _, lLed D O DU CT ws vo cs ds cO c1 c2 ps2 ++ rest, ⟨u, _, _, c1, c2, ps2, _, ts, rfl, rfl, hps, hb1, hm, hcs, htp, hms, hr⟩, ?_, F, ?_, hG, hd, ho⟩
  · intro q hq
    simp only [lLed, List.cons_append, List.nil_append, List.mem_cons] at hq hap
    rcases hq with rfl | rfl | rfl | rfl | rfl | hq
    · exact hap (CT, listOf cs.toArray c1) (by simp)
    · exact hap (DU, listOf ds.toArray c2) (by simp)
    · exact hap (O, listOf vo.toArray cO) (by simp)
    · exact hap (D, listOf ws.toArray 0) (by simp)
    · exact hap (268, X.tableObj ps') (by simp)
    · exact hap q (by simp [hq])
  · refine news_sub N fun q hq => ?_
    simp only [lLed, List.cons_append, List.nil_append, List.mem_cons] at hq ⊢
    rcases hq with h | h | h | h | h | h | h <;> simp [h]
/-- the kind at place i, and whether it is asked for -/
def k5 (i : Nat) : Int := [1, 2, 8, 13, 4].getD i 0
def h5 (kb hb : Bool) (i : Nat) : Bool := [false, false, kb, hb, true].getD i false
theorem kms_succ (kb hb : Bool) (i : Nat) (hi : i < 5) : kms kb hb (i + 1) = if h5 kb hb i then kms kb hb i ++ [k5 i] else kms kb hb i := by
  have : i = 0 ∨ i = 1 ∨ i = 2 ∨ i = 3 ∨ i = 4 := by omega
  rcases this with rfl | rfl | rfl | rfl | rfl <;> cases kb <;> cases hb <;> decide
theorem good5 {b : Array UInt8} {n : Nat} (i : Nat) (hi : i < 5) : h5 (allK b n) (allH b n) i = true ↔ Good b n (k5 i) := by
  have : i = 0 ∨ i = 1 ∨ i = 2 ∨ i = 3 ∨ i = 4 := by omega
  unfold Good
  rcases this with rfl | rfl | rfl | rfl | rfl
  · simp [h5, k5]
  · simp [h5, k5]
  · show allK b n = true ↔ _
    simp [k5]
  · show allH b n = true ↔ _
    simp [k5]
  · simp [h5, k5]
theorem keep_turn {D O DU CT : Addr} (b : Array UInt8) (tb : Tok) (kb hbz : Bool) (ws vo cs ds : List Value) (cO c1 c2 : Nat) (ps : Array Value) (rest : Led) (m : Int) (t : Tok) (u : Str → Option Value) (n : Nat) (hb : b.size = 2 * n) (hn0 : 0 < n) (hn : n ≤ 8) (hc : ∀ i, i < n → 161 ≤ (b.getD (2 * i + 1) 0).toNat)
    (hg : Good b n m) (hps : TriplesOk ps.toList) (ov : List Int) (hIo : IntsAre vo ov) (hvo : ov.length = 2 * n) (hcl : cs.length ≤ 10) (hdl : ds.length ≤ 10) (h1 : @LT.lt Nat _ D O) (h2 : @LT.lt Nat _ O DU) (h3 : @LT.lt Nat _ DU CT) (hrC : ∀ q ∈ rest, q.1 ≠ CT) (hrD : ∀ q ∈ rest, q.1 ≠ DU) (hr8 : ∀ q ∈ rest, q.1 ≠ 268) :
    Walk w mg mb bm ob 327 (loopBody 13) (fun _ _ => True) (KeepPre D O DU CT b tb kb hbz ws vo cs ds cO c1 c2 ps rest m t u true) (KeepQ D O DU CT b tb kb hbz ws vo cs ds cO rest m t) := by
  rcases id hg with rfl | ⟨rfl, _⟩ | ⟨rfl, _⟩
  · exact keep4 b tb kb hbz ws vo cs ds cO c1 c2 ps rest t u n hb hn0 hn hc hg hps ov hIo hvo hcl hdl h1 h2 h3 hrC hrD hr8
  · exact keep8 b tb kb hbz ws vo cs ds cO c1 c2 ps rest t u n hb hn0 hn hc hg hps ov hIo hvo hcl hdl h1 h2 h3 hrC hrD hr8
  · exact keep13 b tb kb hbz ws vo cs ds cO c1 c2 ps rest t u n hb hn0 hn hc hg hps ov hIo hvo hcl hdl h1 h2 h3 hrC hrD hr8
theorem for14 {bd : List Stmt} {sc : Scope} {q : Str} {cd : Value} (hfb : fnBody (hd.heap_39 w.params) 327 = some (bd, sc, q, cd)) {dp un : Nat} {gd : Option (List Code)} {fa L : Addr} {outer : List Env} {A₀ : Around} {g : Heap} (C : CX w mg mb bm ob A₀ g outer g) (hdp : dp + 41 < recursionLimit) (hun : un + 403 < cLine)
    {px p1 p2 : Pos} {k1} {R' : Result → Shared → Prop} {s : Shared} {D O DU CT I TL T0 T1 T2 T3 T4 : Addr} {b : Array UInt8} {tb : Tok} {ws vo : List Value} {cO c1 c2 ct n : Nat} {ps : Array Value} {octs : List Int} {t0 t1 t2 t3 t4 : Tok} {m : Str → Option Value} {news : Led}
    (hx : (envX q sc L fa cd []).kindOf (Str.ofString "told") = some .local) (hy : (envX q sc L fa cd []).kindOf (Str.ofString "holds") = some .local) (hp : ((envX q sc L fa cd []).scope.kind == .class || ((envX q sc L fa cd []).scope.kind == .module && (envX q sc L fa cd []).locals != (envX q sc L fa cd []).globals)) = false)
    (F : Fr g L s.heap m) (hm : m = mL D O DU CT b tb (allK b n) (allH b n) m) (N : News g L s.heap ((I, liObj TL 0) :: news)) (hap : ∀ q ∈ news, q.1 ≠ I)
    (hb0 : ∀ q ∈ [(TL, listOf #[.ref T0, .ref T1, .ref T2, .ref T3, .ref T4] ct), (T0, tupObj [.int 1 t0, .bool false]), (T1, tupObj [.int 2 t1, .bool false]), (T2, tupObj [.int 8 t2, .bool (allK b n)]), (T3, tupObj [.int 13 t3, .bool (allH b n)]), (T4, tupObj [.int 4 t4, .bool true])], @LT.lt Nat _ CT q.1 ∧ @LT.lt Nat _ 268 q.1)
    (hn : ∀ q ∈ lLed D O DU CT ws vo [] [] cO c1 c2 ps ++ [(TL, listOf #[.ref T0, .ref T1, .ref T2, .ref T3, .ref T4] ct), (T0, tupObj [.int 1 t0, .bool false]), (T1, tupObj [.int 2 t1, .bool false]), (T2, tupObj [.int 8 t2, .bool (allK b n)]), (T3, tupObj [.int 13 t3, .bool (allH b n)]), (T4, tupObj [.int 4 t4, .bool true])], q ∈ news)
    (hI : @LT.lt Nat _ CT I ∧ @LT.lt Nat _ 268 I) (hG : AllBare s.gens) (hps : TriplesOk ps.toList) (hb : b.size = 2 * n) (hn0 : 0 < n) (hn8 : n ≤ 8) (hc : ∀ i, i < n → 161 ≤ (b.getD (2 * i + 1) 0).toNat) (hIo : IntsAre vo octs) (hvo : octs.length = 2 * n) (h1 : @LT.lt Nat _ D O) (h2 : @LT.lt Nat _ O DU) (h3 : @LT.lt Nat _ DU CT)
    (done : ∀ m' news' h' tk gn, K14 D O DU CT b tb (allK b n) (allH b n) ws vo cO octs (kms (allK b n) (allH b n) 5) [] m' news' → Fr g L h' m' → News g L h' news' → AllBare gn → R' (.ok .next) ⟨h', gn, s.drawn, tk, s.os⟩) :
    codeR (model PySem.Challenge.rw_im0109_02.row.prog w) (ktrTop (dp + 1) (un + 3) gd q sc L fa cd [] outer) (.forLoop (.Tuple [.Name (Str.ofString "told") p1, .Name (Str.ofString "holds") p2] k1 px) (.ref I) (loopBody 13 bd) [] (envX q sc L fa cd [])) R' s := by
  generalize hmust : [(TL, listOf #[Value.ref T0, .ref T1, .ref T2, .ref T3, .ref T4] ct), (T0, tupObj [.int 1 t0, .bool false]), (T1, tupObj [.int 2 t1, .bool false]), (T2, tupObj [.int 8 t2, .bool (allK b n)]), (T3, tupObj [.int 13 t3, .bool (allH b n)]), (T4, tupObj [.int 4 t4, .bool true])] = must at *
  refine forT (its := #[.ref T0, .ref T1, .ref T2, .ref T3, .ref T4]) (D := TL) (c := ct) (I := I) (m := m) (news := lLed D O DU CT ws vo [] [] cO c1 c2 ps ++ must) rfl hx hy hp (fun i => [T0, T1, T2, T3, T4].getD i 0) (fun i => .int (k5 i) ([t0, t1, t2, t3, t4].getD i t0)) (fun i => .bool (h5 (allK b n) (allH b n) i))
    (fun i => tupObj [.int (k5 i) ([t0, t1, t2, t3, t4].getD i t0), .bool (h5 (allK b n) (allH b n) i)]) ?_ ?_ (fun i => K14 D O DU CT b tb (allK b n) (allH b n) ws vo cO octs (kms (allK b n) (allH b n) i) must) ?_ F ?_ ?_ hG ?_ ?_ ?_
  · intro i hi
    have : i = 0 ∨ i = 1 ∨ i = 2 ∨ i = 3 ∨ i = 4 := by simp at hi; omega
    rcases this with rfl | rfl | rfl | rfl | rfl <;> rfl
  · intro i hi
    exact ⟨rfl, _, rfl⟩
  · rintro i m₁ news₁ ⟨u, cs, ds, c1', c2', ps', rest, ts, rfl, rfl, _, _, hmu, _⟩
    refine ⟨List.mem_append_right _ (hmu _ (by rw [← hmust]; exact .head _)), fun hi => List.mem_append_right _ (hmu _ ?_)⟩
    have : i = 0 ∨ i = 1 ∨ i = 2 ∨ i = 3 ∨ i = 4 := by simp at hi; omega
    rw [← hmust]
    rcases this with rfl | rfl | rfl | rfl | rfl
    · exact .tail _ (.head _)
    · exact .tail _ (.tail _ (.head _))
    · exact .tail _ (.tail _ (.tail _ (.head _)))
    · exact .tail _ (.tail _ (.tail _ (.tail _ (.head _))))
    · exact .tail _ (.tail _ (.tail _ (.tail _ (.tail _ (.head _)))))
  · refine news_sub N fun q hq => ?_
    rcases List.mem_cons.mp hq with rfl | hq
    · exact .head _
    · exact .tail _ (hn q hq)
  · exact fun q hq => hap q (hn q hq)
  · exact ⟨m, [], [], c1, c2, ps, must, [], hm, rfl, hps, hb0, fun _ h => h, rfl, (fun _ h => nomatch h), by simp [kms], by simp [kms]; exact RunsIn.nil⟩
  · rintro i m₁ news₁ h tk gn hi ⟨u, cs, ds, c1', c2', ps', rest, ts, rfl, rfl, hps', hbr, hmu, hcs, htp, hms, hr⟩ hap₁ F₁ N₁ hG₁
    have hi5 : i < 5 := by simpa using hi
    have hkl : ∀ i, (kms (allK b n) (allH b n) i).length ≤ 5 := fun i => Nat.le_trans (List.length_filter_le _ _) (by rw [List.length_take]; exact Nat.min_le_right _ _)
    have htl : ts.length ≤ 5 := by have := congrArg List.length hms; rw [List.length_map] at this; rw [this]; exact hkl i
    have hdl : ds.length ≤ 5 := by have := hr.len; rw [List.length_map] at this; rw [this]; exact hkl i
    have hrest : ∀ q ∈ (I, liObj TL (i + 1)) :: rest, @LT.lt Nat _ CT q.1 ∧ @LT.lt Nat _ 268 q.1 := fun q hq => by
      rcases List.mem_cons.mp hq with rfl | hq
      · exact hI
      · exact hbr q hq
    have N2 : News g L h (lLed D O DU CT ws vo cs ds cO c1' c2' ps' ++ ((I, liObj TL (i + 1)) :: rest)) := news_sub N₁ fun q hq => by
      rcases List.mem_append.mp hq with hq | hq
      · exact .tail _ (List.mem_append_left _ hq)
      · rcases List.mem_cons.mp hq with rfl | hq
        · exact .head _
        · exact .tail _ (List.mem_append_right _ hq)
    rw [kms_succ _ _ i hi5]
    cases hgd : h5 (allK b n) (allH b n) i with
    | true =>
      rw [hgd] at F₁
      have hw := (keep_turn (w := w) (mg := mg) (mb := mb) (bm := bm) (ob := ob) b tb (allK b n) (allH b n) ws vo cs ds cO c1' c2' ps' ((I, liObj TL (i + 1)) :: rest) (k5 i) ([t0, t1, t2, t3, t4].getD i t0) u n hb hn0 hn8 hc ((good5 i hi5).mp hgd) hps' octs hIo hvo (by rw [hcs, List.length_map]; omega) (by omega) h1 h2 h3
        (fun q hq => Nat.ne_of_gt (hrest q hq).1) (fun q hq => Nat.ne_of_gt (Nat.lt_trans h3 (hrest q hq).1)) (fun q hq => Nat.ne_of_gt (hrest q hq).2)).toL
      refine wpR_mono (hw bd sc q cd hfb dp un gd fa L outer A₀ g h gn s.drawn tk s.os _ _ C F₁ N2 ⟨rfl, rfl⟩ hG₁ hdp hun) (fun f s₃ hq => ?_) (fun _ _ z => z.elim)
      obtain ⟨rfl, hz⟩ := k14_keep (octs := octs) (must := must) (c1 := c1') (c2 := c2') (ps' := ps') hq hbr hmu hcs htp hms hr hIo hap₁ rfl
      simp only [if_true]
      exact hz
    | false =>
      rw [hgd] at F₁
      have hng : ¬ Good b n (k5 i) := fun x => by rw [(good5 i hi5).mpr x] at hgd; cases hgd
      have hk5 : k5 i = 1 ∨ k5 i = 2 ∨ k5 i = 8 ∨ k5 i = 13 := by
        have : i = 0 ∨ i = 1 ∨ i = 2 ∨ i = 3 ∨ i = 4 := by omega
        rcases this with rfl | rfl | rfl | rfl | rfl
        · exact .inl rfl
        · exact .inr (.inl rfl)
        · exact .inr (.inr (.inl rfl))
        · exact .inr (.inr (.inr rfl))
        · exact absurd (.inl rfl) hng
      have hw := (drop_turn (w := w) (mg := mg) (mb := mb) (bm := bm) (ob := ob) (D := D) (O := O) (DU := DU) (CT := CT) b tb (allK b n) (allH b n) ws vo cs ds cO c1' c2' ps' ((I, liObj TL (i + 1)) :: rest) (k5 i) hk5 ([t0, t1, t2, t3, t4].getD i t0) u n hb hn0 hn8 hc hng hps' (fun q hq => Nat.ne_of_gt (hrest q hq).2))
      refine wpR_mono (hw bd sc q cd hfb dp un gd fa L outer A₀ g h gn s.drawn tk s.os _ _ C F₁ N2 ⟨rfl, rfl⟩ hG₁ hdp hun) (fun f s₃ hq => ?_) (fun _ _ z => z.elim)
      obtain ⟨rfl, hz⟩ := k14_drop (octs := octs) (must := must) (ps' := ps') hq hbr hmu hcs htp hms hr hap₁
      simp only [Bool.false_eq_true, if_false]
      exact hz
  · rintro m' news' h' tk gn ⟨u, cs, ds, c1', c2', ps', rest, ts, hz1, hz2, hz3, hz4, _, hz⟩ F' N' hG'
    exact done m' news' h' tk gn ⟨u, cs, ds, c1', c2', ps', rest, ts, hz1, hz2, hz3, hz4, (fun _ h => nomatch h), hz⟩ F' N' hG'
end
section
variable {w : World} {mg mb : Str → Option Value} {bm : Addr} {ob : Obj}
abbrev bOf (ns : List Int) : Array UInt8 := byteArr (octs1 ns)
abbrev nOf (ns : List Int) : Nat := (nums ns).length - 2
def P14 (ns : List Int) (m : Str → Option Value) (news : Led) : Prop := ∃ (D O DU CT : Addr) (ws vo : List Value) (tb : Tok) (cO : Nat), IntsAre ws (nums ns) ∧ IntsAre vo (octs1 ns) ∧ @LT.lt Nat _ D O ∧ @LT.lt Nat _ O DU ∧ @LT.lt Nat _ DU CT ∧
  K14 D O DU CT (bOf ns) tb (allK (bOf ns) (nOf ns)) (allH (bOf ns) (nOf ns)) ws vo cO (octs1 ns) (kms (allK (bOf ns) (nOf ns)) (allH (bOf ns) (nOf ns)) 5) [] m news
theorem part6 (sl : Addr) (ns : List Int) (ps : Array Value) (hps : TriplesOk ps.toList) : WalkL w mg mb bm ob 327 (fun b => (b.drop 13).take 1) (P13 sl ns ps) (PostQ (P14 ns)) := by
  w_on
  delta WalkL
  k_fill
  refine' walkL_of ?ho ?hb; (case ho => k_is)
  intro dp un gd fa L outer A₀ g h₁ gn d' tk os mm news C F N hpre hG hd' hu
  obtain ⟨D, FF, O, DU, CT, ws, vo, ts, tb, vn, vfi, vpl, cO, hI, hvo, h1, h2, h3, rfl, rfl⟩ := hpre
  simp only [List.drop_succ_cons, List.drop_zero, List.take_succ_cons, List.take_zero]
  have X' := C.X
  have T' := C.T
  have B' := C.B
  have M' := C.M
  have hln := nums_len ns
  dsimp only [m10] at F
  rw [← allK_fl, ← allH_fl] at F
  refine wpR_execs_cons (wpR_For ?_)
  (try k_fold)
  k_steps
  have F9 := ‹Fr g L _ _›
  have N9 := ‹News g L _ _›
  refine iterL F9 N9 fun I hp2 F2 N2 hltI => ?_
  have hfb := fnBody_is (K := hd.heap_39 w.params) (f := 327) (by k_is)
  refine for14 (D := D) (O := O) (DU := DU) (CT := CT) (b := byteArr (octs1 ns)) (tb := tb) (ws := ws) (vo := vo) (cO := cO) (c1 := 0) (c2 := 0) (n := (nums ns).length - 2) (ps := ps) (octs := octs1 ns) hfb C hd' hu rfl rfl rfl F2 (mL_of rfl rfl rfl rfl rfl rfl rfl) N2 (fun q hq => Nat.ne_of_lt (hltI q hq)) ?_ (by walk_at "my_subs") ⟨hltI (CT, listOf #[] 0) (by k_mem), hltI (268, X.tableObj ps) (by k_mem)⟩ hG hps (size_bytes ns) (by omega) (by omega) (snd_bytes ns) hvo (octs1_len ns) h1 h2 h3 ?_
  · repeat (first | exact List.forall_mem_nil _ | refine List.forall_mem_cons.mpr ⟨by (dsimp only; omega), ?_⟩)
  · intro m' news' h' tk' gn' hK F' N' hG'
    repeat (refine wpR_execs_nil ?_; (try dsimp only))
    exact ⟨rfl, m', news', F', N', ⟨D, O, DU, CT, ws, vo, tb, cO, hI, hvo, h1, h2, h3, hK⟩, hG', rfl, rfl⟩
end
section
variable {w : World} {mg mb : Str → Option Value} {bm : Addr} {ob : Obj}
theorem RunsIn.lists {x : Addr × Obj} {rest : Led} {vs : List Value} {rs : List RunD} (h : RunsIn (x :: rest) vs rs) : ∃ rest2 : Led, (∀ q ∈ rest2, q ∈ x :: rest ∧ q.2.cls = .type "list") ∧ RunsIn rest2 vs rs := by
  induction h with
  | nil => exact ⟨[], (fun _ h => nomatch h), .nil⟩
  | @cons a o t ws vs c c' r rs h1 h2 h3 _ ih =>
    obtain ⟨rest2, hq, hr⟩ := ih
    refine ⟨(a, listOf #[.int r.1 t, .ref o] c) :: (o, listOf ws.toArray c') :: rest2, fun q hq' => ?_, .cons (.head _) (.tail _ (.head _)) h3 (hr.sub fun q h => .tail _ (.tail _ h))⟩
    rcases List.mem_cons.mp hq' with rfl | hq'
    · exact ⟨h1, rfl⟩
    · rcases List.mem_cons.mp hq' with rfl | hq'
      · exact ⟨h2, rfl⟩
      · exact hq q hq'
theorem kms_nodup (kb hb : Bool) : (kms kb hb 5).Nodup := by cases kb <;> cases hb <;> decide
theorem kms_good {b : Array UInt8} {n : Nat} {m : Int} (h : m ∈ kms (allK b n) (allH b n) 5) : Good b n m := by
  unfold kms at h
  obtain ⟨_, hg⟩ := List.mem_filter.mp h
  simp only [kGood, Bool.or_eq_true, Bool.and_eq_true, decide_eq_true_eq] at hg
  unfold Good
  rcases hg with (h | h) | h
  · exact .inl h
  · exact .inr (.inl h)
  · exact .inr (.inr h)
theorem after_prep {g h h' : Heap} {L D O DU CT : Addr} {b : Array UInt8} {tb : Tok} {ws vo cs ds : List Value} {cO c1 c2 : Nat} {ps : Array Value} {rest nw items : Led} {ts : List Tp} {runs : List RunD} (N : News g L h (lLed D O DU CT ws vo cs ds cO c1 c2 ps ++ rest)) (hbr : ∀ q ∈ rest, @LT.lt Nat _ CT q.1 ∧ @LT.lt Nat _ 268 q.1)
    (htp : ∀ q ∈ tpLed b tb ts, q ∈ rest) (hr : RunsIn ((O, listOf vo.toArray cO) :: rest) ds runs) (h1 : @LT.lt Nat _ D O) (h2 : @LT.lt Nat _ O DU) (h3 : @LT.lt Nat _ DU CT) (hq : ∀ q ∈ items, q ∈ nw)
    (hN : ∀ l : Led, (∀ q ∈ l, q ∈ nw ∨ (q ∈ lLed D O DU CT ws vo cs ds cO c1 c2 ps ++ rest ∧ q.1 ∉ ([(CT, listOf cs.toArray c1), (268, X.tableObj ps)] ++ tpLed b tb ts).map (·.1))) → News g L h' l) :
    ∃ rest2, RunsIn rest2 ds runs ∧ (∀ q ∈ rest2, q.2.cls = .type "list") ∧ News g L h' (items ++ ((DU, listOf ds.toArray c2) :: (D, listOf ws.toArray 0) :: rest2)) := by
  obtain ⟨rest2, hin, hr2⟩ := hr.lists
  refine ⟨rest2, hr2, fun q h => (hin q h).2, hN _ fun q hq' => ?_⟩
  simp only [lLed, List.cons_append, List.nil_append] at N ⊢
  have e2 := news_ne N (a := DU) (b := 268) (by k_mem) (by k_mem) (by intro h; cases h)
  have e3 := news_ne N (a := O) (b := 268) (by k_mem) (by k_mem) (by intro h; cases h)
  have e4 := news_ne N (a := D) (b := 268) (by k_mem) (by k_mem) (by intro h; cases h)
  have key : ∀ q ∈ (CT, listOf cs.toArray c1) :: (DU, listOf ds.toArray c2) :: (O, listOf vo.toArray cO) :: (D, listOf ws.toArray 0) :: (268, X.tableObj ps) :: rest, q.2.cls = .type "list" → q.1 ≠ CT → q.1 ≠ 268 → q.1 ∉ ((CT, listOf cs.toArray c1) :: (268, X.tableObj ps) :: tpLed b tb ts).map (·.1) := by
    intro q hq hc n1 n2 hm
    simp only [List.map_cons, List.mem_cons] at hm
    rcases hm with e | e | hm
    · exact n1 e
    · exact n2 e
    · obtain ⟨z, hz, e⟩ := List.mem_map.mp hm
      have hzr := htp z hz
      have hzc : z.2.cls = .type "tuple" := by
        obtain ⟨y, _, rfl⟩ := List.mem_map.mp hz
        rfl
      obtain ⟨qa, qo⟩ := q
      obtain ⟨za, zo⟩ := z
      dsimp only at hzc hc e
      exact news_ne N (a := za) (b := qa) (o := zo) (o' := qo) (by simp [hzr]) hq (by rw [hzc, hc]; simp) e
  rcases List.mem_append.mp hq' with hq' | hq'
  · exact .inl (hq q hq')
  · refine .inr ?_
    rcases List.mem_cons.mp hq' with rfl | hq'
    · exact ⟨by simp, key (DU, listOf ds.toArray c2) (by simp) rfl (Nat.ne_of_lt h3) e2⟩
    · rcases List.mem_cons.mp hq' with rfl | hq'
      · exact ⟨by simp, key (D, listOf ws.toArray 0) (by simp) rfl (Nat.ne_of_lt (Nat.lt_trans h1 (Nat.lt_trans h2 h3))) e4⟩
      · obtain ⟨hq1, hc⟩ := hin q hq'
        rcases List.mem_cons.mp hq1 with rfl | hq1
        · exact ⟨by simp, key (O, listOf vo.toArray cO) (by simp) rfl (Nat.ne_of_lt (Nat.lt_trans h2 h3)) e3⟩
        · exact ⟨by simp [hq1], key q (by simp [hq1]) hc (Nat.ne_of_gt (hbr q hq1).1) (Nat.ne_of_gt (hbr q hq1).2)⟩
end
section
local macro_rules | `(tactic| walk_at "call type:list") => `(tactic| ((with_reducible show wpAny _ _ (call (Value.type "list") [Value.ref _]) _ _ _); k_dflt (refine' Own.list_baN ?la ?lf ?ln ?lm ?ll ?li ?_; (case la => rfl); (case lf => k_asm); (case ln => k_asm); (case lm => k_mem); (case ll => omega); (case li => assumption)); intro D' ws' h' c' tk' F' N' l1 hI'; (try k_lt l1)))
section
variable {w : World} {mg mb : Str → Option Value} {bm : Addr} {ob : Obj}
/-- a test in its own logic -/
def TestP (b0 : Bool) (g : Heap) (L : Addr) (d : Drawn) (os : OsState) (Post : (Str → Option Value) → Led → Prop) (b : Bool) (s' : Shared) : Prop := b = b0 ∧ ∃ h tk gn m news, s' = ⟨h, gn, d, tk, os⟩ ∧ AllBare gn ∧ Fr g L h m ∧ News g L h news ∧ Post m news
theorem or_no {M : Model} {A : Around} {E : Value → Shared → Prop} {Q : Bool → Shared → Prop} {env : Env} {x : Expr} {rest : List Expr} {s : Shared} {g : Heap} {L : Addr} {d : Drawn} {os : OsState} (Post : (Str → Option Value) → Led → Prop)
    (h1 : wpR M A (isTrue x env (eval x env)) (TestP false g L d os Post) (fun _ _ => False) s) (h2 : ∀ h tk gn m news, Post m news → AllBare gn → Fr g L h m → News g L h news → wpR M A (allTrue .Or rest env) Q E ⟨h, gn, d, tk, os⟩) : wpR M A (allTrue .Or (x :: rest) env) Q E s :=
  Own.wpR_allTrue_Or_cons (wpR_mono h1 (fun b s' ⟨hb, h, tk, gn, m, news, hs, hG, F, N, hP⟩ => by subst hb; subst hs; exact h2 h tk gn m news hP hG F N) (fun _ _ z => z.elim))
theorem test_mk {b0 b : Bool} {g h : Heap} {L : Addr} {d : Drawn} {os : OsState} {gn : Array GenState} {tk : Nat} {Post : (Str → Option Value) → Led → Prop} {m : Str → Option Value} {news all : Led} (hb : b = b0) (F : Fr g L h m) (N : News g L h all) (hn : ∀ q ∈ news, q ∈ all) (hG : AllBare gn) (hP : Post m news) : TestP b0 g L d os Post b ⟨h, gn, d, tk, os⟩ :=
  ⟨hb, h, tk, gn, m, news, rfl, hG, F, news_sub N hn, hP⟩
theorem bitsOf_01 (v : Int) (n : Nat) : ∀ x ∈ bitsOf v n, 0 ≤ x ∧ x < 256 := by
  intro x hx
  simp only [bitsOf, List.mem_map] at hx
  obtain ⟨i, _, rfl⟩ := hx
  omega
theorem segBits_01 (b : Array UInt8) (n : Nat) (m : Int) : ∀ x ∈ segBits b n m, 0 ≤ x ∧ x < 256 := by
  intro x hx
  unfold segBits at hx
  split at hx
  · obtain ⟨j, _, hj⟩ := List.mem_flatMap.mp hx; exact bitsOf_01 _ _ x hj
  · split at hx
    · obtain ⟨j, _, hj⟩ := List.mem_flatMap.mp hx; exact bitsOf_01 _ _ x hj
    · obtain ⟨j, _, hj⟩ := List.mem_flatMap.mp hx; exact bitsOf_01 _ _ x hj
theorem exec_if_no {M : Model} {A : Around} {E : Value → Shared → Prop} {Q : Flow → Shared → Prop} {env : Env} {test : Expr} {body : List Stmt} {pos : Pos} {s : Shared} (h : wpR M A (isTrue test env (eval test env)) (fun b s₁ => b = false ∧ Q .next s₁) E s) : wpR M A (exec (.If test body [] pos) env) Q E s :=
  wpR_If (wpR_mono h (fun b s₁ ⟨hb, hq⟩ => by subst hb; exact wpR_execs_nil hq) fun _ _ z => z)
theorem or_keep {M : Model} {A : Around} {E : Value → Shared → Prop} {Q : Bool → Shared → Prop} {env : Env} {x : Expr} {rest : List Expr} {g h0 : Heap} {L : Addr} {d : Drawn} {os : OsState} {gn0 : Array GenState} {tk0 : Nat} {m : Str → Option Value} {news : Led} (_ : Fr g L h0 m) (_ : News g L h0 news)
    (h1 : wpR M A (isTrue x env (eval x env)) (TestP false g L d os (fun m' n' => m' = m ∧ n' = news)) (fun _ _ => False) ⟨h0, gn0, d, tk0, os⟩) (h2 : ∀ h tk gn, AllBare gn → Fr g L h m → News g L h news → wpR M A (allTrue .Or rest env) Q E ⟨h, gn, d, tk, os⟩) : wpR M A (allTrue .Or (x :: rest) env) Q E ⟨h0, gn0, d, tk0, os⟩ :=
  or_no _ h1 fun h tk gn m' n' hP hG F N => by obtain ⟨rfl, rfl⟩ := hP; exact h2 h tk gn hG F N
theorem getD_in {b : Array UInt8} {i : Nat} (h : i < b.size) : b.getD i 0 ∈ b := by
  rw [Array.getD_eq_getD_getElem?, Array.getElem?_eq_getElem h]
  exact Array.getElem_mem h
theorem part7 (ns : List Int) : WalkL w mg mb bm ob 327 (fun b => (b.drop 14).take 3) (P14 ns) (PostQ (P14 ns)) := by
  w_on
  delta WalkL
  k_fill
  refine' walkL_of ?ho ?hb; (case ho => k_is)
  intro dp un gd fa L outer A₀ g h₁ gn d' tk os mm news C F N hpre hG hd' hu
  obtain ⟨D, O, DU, CT, ws, vo, tb, cO, hI, hvo, h1, h2, h3, u, cs, ds, c1, c2, ps, rest, ts, rfl, rfl, hps, hbr, _, hcs, htp, hms, hr⟩ := hpre
  simp only [List.drop_succ_cons, List.drop_zero, List.take_succ_cons, List.take_zero]
  have X' := C.X
  have T' := C.T
  have B' := C.B
  have M' := C.M
  have hln := nums_len ns
  have hb := size_bytes ns
  have hsnd := snd_bytes ns
  have hn0 : 0 < (nums ns).length - 2 := by omega
  have hn8 : (nums ns).length - 2 ≤ 8 := by omega
  have hr8 : ∀ q ∈ rest, q.1 ≠ 268 := fun q hq => Nat.ne_of_gt (hbr q hq).2
  generalize hch : (if allK (bOf ns) (nOf ns) = true then (8 : Int) else 4) = ch
  have hgood : Good (bOf ns) (nOf ns) ch := by
    rw [← hch]
    split
    · exact .inr (.inl ⟨rfl, by assumption⟩)
    · exact .inl rfl
  have N0 := N
  (try delta mL at F)
  simp only [lLed, List.cons_append, List.nil_append] at N
  refine step_num (Str.ofString "chosen") ch F N ?_ fun hh2 t2 tk2 gn2 hG2 F2 N2 => ?_
  · (try k_fold)
    k_steps
    all_goals (refine num_mk (by assumption) (by assumption) (by assumption) (fun q hq => hq) ?_; rw [← hch]; simp [*])
  · clear F N N0 hG
    refine wpR_execs_cons (wpR_Assign_Name (wpR_CallName ?_))
    (try k_fold)
    k_steps
    refine wpR_callK (K := Mine02.hd.heap_39 w.params) (by k_is) ?_
    (try k_fold)
    k_steps
    (try dsimp only [List.cons_append, List.nil_append])
    refine Own.SpecR.use (mkseg_none (bOf ns) (nOf ns) hb hn0 hn8 hsnd tb ps hps) C F2 N2 rfl (by walk_at "my_subs") hG2 (by omega) (by omega) fun v5 nw5 h5 tk5 g5 hP5 F5 N5' hap5 G5 => ?_
    rw [hch] at hP5
    obtain ⟨⟨sx, sdx, sdd, stc, stm, se, scount, smode, sbits⟩, ps2, rfl, hmode, hsok, hps2, hq5⟩ := hP5
    dsimp only at hmode
    subst hmode
    have N6 := led_after (D := D) (O := O) (DU := DU) (CT := CT) N2 hr8 hq5 N5'
    simp only [lLed, Sg.led, List.cons_append, List.nil_append] at N6
    obtain ⟨hbits, hcount, _, _⟩ := hsok
    dsimp only at hbits hcount N6
    clear N2 N5' hap5 F2 hG2
    (try dsimp only)
    (try k_fold)
    k_steps
    refine wpR_execs_cons (exec_if_no (Own.wpR_isTrue_BoolOp ?_))
    have F6 := ‹Fr g L _ _›
    have N7 := ‹News g L _ _›
    refine or_keep F6 N7 ?_ fun h8 tk8 gn8 hG8 F8 N8 => ?_
    · refine Own.wpR_isTrue_Compare1 (wpR_CallName ?_)
      (try k_fold)
      k_steps
      refine wpR_callK (K := Mine02.hd.heap_39 w.params) (by k_is) ?_
      (try k_fold)
      k_steps
      (try dsimp only [List.cons_append, List.nil_append])
      refine Own.SpecR.useV (findmode_spec (bOf ns) (nOf ns) hb hn0 hn8 ((bOf ns).getD 1 0) (getD_in (by rw [hb]; omega)) (hsnd 0 hn0) tb) C ‹Fr g L _ _› ‹News g L _ _› rfl (by assumption) (by omega) (by omega) fun v9 nw9 h9 tk9 g9 hP9 F9 N9 hG9 => ?_
      replace hP9 : ∃ tk, v9 = .int smode tk := by
        obtain ⟨tq, e⟩ := hP9
        exact ⟨tq, by rw [e]; exact congrArg (fun z => Value.int z tq) hch⟩
      obtain ⟨tq, rfl⟩ := hP9
      refine wpR_of ?_
      (try k_fold)
      k_steps
      exact test_mk (by simp) ‹Fr g L _ _› ‹News g L _ _› (fun q hq => hq) hG9 ⟨rfl, rfl⟩
    · refine or_keep F8 N8 ?_ fun h10 tk10 gn10 hG10 F10 N10 => ?_
      · refine wpR_of ?_
        (try k_fold)
        k_steps
        exact test_mk (by simp) ‹Fr g L _ _› ‹News g L _ _› (fun q hq => hq) ‹AllBare _› ⟨rfl, rfl⟩
      · have hblen := segBits_len (n := nOf ns) hb smode
        rw [← hbits] at hblen
        have hnO : nOf ns ≤ 8 := hn8
        have hbin := segBits_01 (bOf ns) (nOf ns) smode
        rw [← hbits] at hbin
        clear N7 F6 N8 F8 hG8
        refine or_no (g := g) (L := L) (d := d') (os := os) (fun m' n' => m' = mL D O DU CT (bOf ns) tb (allK (bOf ns) (nOf ns)) (allH (bOf ns) (nOf ns)) m' ∧ ∃ ps', TriplesOk ps'.toList ∧ n' = lLed D O DU CT ws vo cs ds cO c1 c2 ps' ++ rest) ?_ fun h11 tk11 gn11 m11 n11 hP11 hG11 F11 N11 => ?_
        · refine Own.wpR_isTrue_Compare1 ?_
          refine wpR_of ?_
          (try k_fold)
          k_steps
          have F12 := ‹Fr g L _ _›
          have N12 := ‹News g L _ ((_, listOf _ _) :: (sx, _) :: _)›
          have hI12 := ‹IntsAre _ sbits›
          have l12 := ‹sx < _ ∧ _›
          have G12 := ‹AllBare _›
          have N13 := news_sub (news' := lLed D O DU CT ws vo cs ds cO c1 c2 ps2 ++ (_ :: rest)) N12 (by
            simp only [lLed, List.cons_append, List.nil_append]
            refine List.forall_mem_cons.mpr ⟨by k_mem, List.forall_mem_cons.mpr ⟨by k_mem, List.forall_mem_cons.mpr ⟨by k_mem, List.forall_mem_cons.mpr ⟨by k_mem, List.forall_mem_cons.mpr ⟨by k_mem, List.forall_mem_cons.mpr ⟨List.Mem.head _, ?_⟩⟩⟩⟩⟩⟩
            walk_at "my_subs")
          clear N12 F10 N10
          refine (show wpR _ _ (eval (.Call (.Name _ _) _ _ _) _) _ _ _ from ?_)
          refine wpR_CallName ?_
          (try k_fold)
          k_steps
          refine wpR_callWith (P := fun _ => True) rfl (keeps_type _) (wpR_evalArgs (wpR_spliced_cons (Own.wpR_Attribute rfl (wpR_CallName ?_))))
          (try k_fold)
          k_steps
          refine wpR_callK (K := Mine02.hd.heap_39 w.params) (by k_is) ?_
          (try k_fold)
          k_steps
          (try dsimp only [List.cons_append, List.nil_append])
          refine Own.SpecR.use (mkseg_keep (bOf ns) (nOf ns) hb hn0 hn8 hsnd smode hgood tb t2 ps2 hps2 [.bytes (bOf ns) tb, .int smode t2] (.inl rfl)) C F12 N13 rfl (fun q hq => by rw [List.mem_singleton.mp hq]; simp [lLed]) ‹AllBare _› (by omega) (by omega) fun v15 nw15 h15 tk15 g15 hP15 F15 N15' hap15 G15 => ?_
          obtain ⟨⟨tx, tdx, tdd, ttc, ttm, te, tcount, tmode, tbits⟩, ps3, rfl, hmode3, hsok3, hps3, hq15⟩ := hP15
          dsimp only at hmode3
          subst hmode3
          have N16 := led_after N13 (fun q hq => (List.mem_cons.mp hq).elim (fun e => by rw [e]; exact Nat.ne_of_gt l12.2.2.2.2.2.2.2.1) (hr8 q)) hq15 N15'
          simp only [lLed, Sg.led, List.cons_append, List.nil_append] at N16
          obtain ⟨hbits3, _, _, _⟩ := hsok3
          dsimp only at hbits3 N16
          rw [← hbits] at hbits3
          subst hbits3
          clear N13 N15' hap15 F12
          (try dsimp only)
          (try k_fold)
          k_steps
          refine (show wpR _ _ (spliced []) _ _ _ from wpR_spliced_nil ⟨trivial, ?_⟩)
          refine wpR_of ?_
          (try dsimp only [List.cons_append, List.nil_append])
          (try k_fold)
          k_steps
          refine test_mk (by simp) ‹Fr g L _ _› ‹News g L _ _› (news := lLed D O DU CT ws vo cs ds cO c1 c2 ps3 ++ rest) ?_ ‹AllBare _› ⟨mL_of rfl rfl rfl rfl rfl rfl rfl, ps3, hps3, rfl⟩
          simp only [lLed, List.cons_append, List.nil_append]
          walk_at "my_subs"
        · obtain ⟨hm11, ps', hps', rfl⟩ := hP11
          refine Own.wpR_allTrue_Or_nil ⟨rfl, ?_⟩
          refine wpR_execs_nil ?_
          rw [hm11] at F11
          exact ⟨rfl, _, _, F11, N11, ⟨D, O, DU, CT, ws, vo, tb, cO, hI, hvo, h1, h2, h3, m11, cs, ds, c1, c2, ps', rest, ts, rfl, rfl, hps', hbr, (fun _ h => nomatch h), hcs, htp, hms, hr⟩, hG11, rfl, rfl⟩
end
section
variable {w : World} {mg mb : Str → Option Value} {bm : Addr} {ob : Obj}
abbrev mG (DU x b : Addr) (ver : Int) (tv : Tok) (u : Str → Option Value) : Str → Option Value := fun y =>
  if y = Str.ofString "buff" then some (.ref b) else if y = Str.ofString "version" then some (.int ver tv) else if y = Str.ofString "segments" then some (.ref x) else if y = Str.ofString "due" then some (.ref DU) else u y
theorem mG_of {DU x b : Addr} {ver : Int} {tv : Tok} {m : Str → Option Value} (h1 : m (Str.ofString "buff") = some (.ref b)) (h2 : m (Str.ofString "version") = some (.int ver tv)) (h3 : m (Str.ofString "segments") = some (.ref x)) (h4 : m (Str.ofString "due") = some (.ref DU)) : m = mG DU x b ver tv m := by
  funext y
  simp only [mG]
  split
  · next e => rw [e, h1]
  · split
    · next e => rw [e, h2]
    · split
      · next e => rw [e, h3]
      · split
        · next e => rw [e, h4]
        · rfl
def verOf (ns : List Int) : Int := 1 + (nums ns).getD 0 0 / 4 % 40
/-- what stands beside the buffer -/
abbrev gRest (x dx lm ls DU : Addr) (nn : Int) (tt : Tok) (c1 c2 cd : Nat) (sgs : List Sg) (ds : List Value) (rest2 : Led) : Led :=
  (x, sgsObj dx nn tt lm ls) :: (dx, dictOf [] 0) :: (ls, listOf (sgs.map fun s => Value.ref s.x).toArray c1) :: (lm, listOf (sgs.map fun s => Value.int s.mode s.tm).toArray c2) :: (DU, listOf ds.toArray cd) :: (sgs.flatMap Sg.led ++ rest2)
def P20 (ns : List Int) (m : Str → Option Value) (news : Led) : Prop :=
  ∃ (x dx lm ls DU b bdx bd : Addr) (nn : Int) (tt tv : Tok) (c1 c2 cd : Nat) (ps : Array Value) (sgs : List Sg) (ds : List Value) (rest2 : Led) (u : Str → Option Value), m = mG DU x b (verOf ns) tv u ∧ news = (b, bufObj bdx bd) :: (bdx, dictOf [] 0) :: (bd, baObj []) :: (268, X.tableObj ps) :: gRest x dx lm ls DU nn tt c1 c2 cd sgs ds rest2 ∧
    TriplesOk ps.toList ∧ sgs.map (·.mode) = kms (allK (bOf ns) (nOf ns)) (allH (bOf ns) (nOf ns)) 5 ∧ (∀ s ∈ sgs, SgOk (bOf ns) (nOf ns) s) ∧ RunsIn rest2 ds ((kms (allK (bOf ns) (nOf ns)) (allH (bOf ns) (nOf ns)) 5).map fun m => (m, octs1 ns)) ∧
    @Ne Nat ls lm ∧ (∀ q ∈ rest2, q.2.cls = .type "list") ∧ (∀ q ∈ gRest x dx lm ls DU nn tt c1 c2 cd sgs ds rest2, q.1 ≠ bd ∧ q.1 ≠ 268)
theorem gRest_8 {g h : Heap} {L x dx lm ls DU : Addr} {nn : Int} {tt : Tok} {c1 c2 cd : Nat} {sgs : List Sg} {ds : List Value} {rest2 : Led} {ps : Array Value} {all : Led} (N : News g L h all) (h8 : (268, X.tableObj ps) ∈ all) (hin : ∀ q ∈ gRest x dx lm ls DU nn tt c1 c2 cd sgs ds rest2, q ∈ all) (hcl : ∀ q ∈ rest2, q.2.cls = .type "list") :
    ∀ q ∈ gRest x dx lm ls DU nn tt c1 c2 cd sgs ds rest2, q.1 ≠ 268 := by
  intro q hq
  obtain ⟨qa, qo⟩ := q
  refine news_ne N (a := qa) (b := 268) (o := qo) (o' := X.tableObj ps) (hin _ hq) h8 ?_
  show qo.cls ≠ Value.none
  have : qo.cls = .ref 147 ∨ qo.cls = .type "dict" ∨ qo.cls = .type "list" ∨ qo.cls = .ref 239 ∨ qo.cls = .type "bytearray" := by
    simp only [gRest, List.mem_cons, List.mem_append, Prod.mk.injEq] at hq
    rcases hq with ⟨_, rfl⟩ | ⟨_, rfl⟩ | ⟨_, rfl⟩ | ⟨_, rfl⟩ | ⟨_, rfl⟩ | hq | hq
    · exact .inl rfl
    · exact .inr (.inl rfl)
    · exact .inr (.inr (.inl rfl))
    · exact .inr (.inr (.inl rfl))
    · exact .inr (.inr (.inl rfl))
    · rcases sgs_cls hq with h | h | h
      · exact .inr (.inr (.inr (.inl h)))
      · exact .inr (.inl h)
      · exact .inr (.inr (.inr (.inr h)))
    · exact .inr (.inr (.inl (hcl _ hq)))
  rcases this with h | h | h | h | h <;> (rw [h]; intro z; cases z)
theorem part8 (ns : List Int) : WalkL w mg mb bm ob 327 (fun b => (b.drop 17).take 3) (P14 ns) (PostQ (P20 ns)) := by
  w_on
  delta WalkL
  k_fill
  refine' walkL_of ?ho ?hb; (case ho => k_is)
  intro dp un gd fa L outer A₀ g h₁ gn d' tk os mm news C F N hpre hG hd' hu
  obtain ⟨D, O, DU, CT, ws, vo, tb, cO, hI, hvo, h1, h2, h3, u, cs, ds, c1, c2, ps, rest, ts, rfl, rfl, hps, hbr, _, hcs, htp, hms, hr⟩ := hpre
  simp only [List.drop_succ_cons, List.drop_zero, List.take_succ_cons, List.take_zero]
  have X' := C.X
  have T' := C.T
  have B' := C.B
  have M' := C.M
  have hln := nums_len ns
  have hb := size_bytes ns
  have hsnd := snd_bytes ns
  have hn0 : 0 < (nums ns).length - 2 := by omega
  have hn8 : (nums ns).length - 2 ≤ 8 := by omega
  have hr8 : ∀ q ∈ rest, q.1 ≠ 268 := fun q hq => Nat.ne_of_gt (hbr q hq).2
  have N0 := N
  have htl : ts.length ≤ 5 := by
    have := congrArg List.length hms
    rw [List.length_map] at this
    rw [this]
    exact Nat.le_trans (List.length_filter_le _ _) (by decide)
  (try delta mL at F)
  simp only [lLed, List.cons_append, List.nil_append] at N
  subst hcs
  refine wpR_execs_cons (wpR_Assign_Name (wpR_CallName ?_))
  (try k_fold)
  k_steps
  refine wpR_callK (K := Mine02.hd.heap_39 w.params) (by k_is) ?_
  (try k_fold)
  k_steps
  (try dsimp only [List.cons_append, List.nil_append])
  refine Own.SpecR.use (prep_spec (bOf ns) (nOf ns) hb hn0 hn8 hsnd tb ps hps CT c1 ts htl (hms ▸ kms_nodup _ _) (fun z hz => kms_good (by rw [← hms]; exact List.mem_map_of_mem hz))) C F N0 rfl ?_ hG (by omega) (by omega) fun v5 nw5 h5 tk5 g5 hP5 F5 N5' hap5 G5 => ?_
  · intro q hq
    simp only [List.cons_append, List.nil_append, List.mem_cons] at hq
    rcases hq with h | h | h
    · simp [lLed, h]
    · simp [lLed, h]
    · exact List.mem_append_right _ (htp q h)
  · obtain ⟨x, dx, lm, ls, nn, tt, c5, c6, ps2, sgs, rfl, hll, hps2, hmd, hok, hq5⟩ := hP5
    obtain ⟨rest2, hr2, hcl2, N6⟩ := after_prep N0 hbr htp hr h1 h2 h3 hq5 N5'
    rw [hms] at hmd
    replace N6 : News g L h5 ((D, listOf ws.toArray 0) :: (268, X.tableObj ps2) :: gRest x dx lm ls DU nn tt c5 c6 c2 sgs ds rest2) := news_sub N6 (by
      intro q hq
      simp only [gRest, sgLed, List.cons_append, List.nil_append, List.mem_cons, List.mem_append] at hq ⊢
      rcases hq with h | h | h | h | h | h | h | h | h <;> simp [h])
    clear N5' hap5 F hG N0 N
    have hvr : 1 ≤ verOf ns ∧ verOf ns ≤ 40 := by unfold verOf; omega
    (try dsimp only)
    (try k_fold)
    k_steps
    refine step_num (Str.ofString "version") (verOf ns) ‹Fr g L _ _› ‹News g L _ _› ?_ fun hh2 t2 tk2 gn2 hG2 F2 N2 => ?_
    · (try k_fold)
      k_steps
      refine num_mk (by assumption) (by assumption) (by assumption) (fun q hq => hq) ?_
      show 1 + (Int.fmod (Int.fdiv ((nums ns).getD 0 0) 4) 40) = _
      rw [fm _ _ (by decide), fd _ _ (by decide)]
      rfl
    · refine wpR_execs_cons (wpR_Assign_Name (wpR_CallName ?_))
      (try k_fold)
      k_steps
      refine wpR_callK0 (K := Mine02.hd.heap_39 w.params) (C.X.keeps F2.keep) (by k_is) ?_
      refine Own.SpecR.use0 (buf_spec) C F2 N2 rfl hG2 (by omega) (by omega) fun v9 nw9 h9 tk9 g9 hP9 F9 N9 hap9 G9 => ?_
      obtain ⟨b, bdx, bd, rfl, hq9⟩ := hP9
      have N10 : News g L h9 ((b, bufObj bdx bd) :: (bdx, dictOf [] 0) :: (bd, baObj []) :: (268, X.tableObj ps2) :: gRest x dx lm ls DU nn tt c5 c6 c2 sgs ds rest2) := news_sub N9 (by
        intro q hq
        simp only [List.mem_cons] at hq
        rcases hq with h | h | h | h | h
        · exact List.mem_append_left _ (hq9 q (by simp [h]))
        · exact List.mem_append_left _ (hq9 q (by simp [h]))
        · exact List.mem_append_left _ (hq9 q (by simp [h]))
        · exact List.mem_append_right _ (by simp [h])
        · exact List.mem_append_right _ (.tail _ (.tail _ (List.mem_cons.mpr (h.imp id fun h => List.mem_cons.mpr (h.imp id fun h => List.mem_cons.mpr (h.imp id fun h => List.mem_cons.mpr (h.imp id fun h => List.mem_cons.mpr h))))))))
      have h268 := gRest_8 N10 (by k_mem) (fun q hq => .tail _ (.tail _ (.tail _ (.tail _ hq)))) hcl2
      have hbd : ∀ q ∈ gRest x dx lm ls DU nn tt c5 c6 c2 sgs ds rest2, q.1 ≠ bd := fun q hq => hap9 q (.tail _ (.tail _ hq)) (bd, baObj []) (hq9 _ (by k_mem))
      clear N9 N2 F2
      (try dsimp only)
      (try k_fold)
      k_steps
      refine wpR_execs_nil ?_
      exact ⟨rfl, _, _, fr_of ‹Fr g L _ _› (mG_of rfl rfl rfl rfl), ‹News g L _ _›, ⟨x, dx, lm, ls, DU, b, bdx, bd, nn, tt, t2, c5, c6, c2, ps2, sgs, ds, rest2, _, rfl, rfl, hps2, hmd, hok, hr2, hll, hcl2, fun q hq => ⟨hbd q hq, h268 q hq⟩⟩, G9, rfl, rfl⟩
end
section
variable {w : World} {mg mb : Str → Option Value} {bm : Addr} {ob : Obj}
theorem pyIter_K {prog : Program} {w : World} {A : Around} {E : Value → Shared → Prop} {s : Shared} {K : Frag} {x C f : Addr} {ox : Obj} {od : Option Obj} {Q : Value → Shared → Prop} (X : K.In s.heap) (I : InstAt s.heap x ox C od) (hs : findIn K (.ref C) (Str.ofString "__iter__") = some (some (.ref f))) (hf : isFn K (.ref f) = true)
    (h : wpAny (model prog w) A (call (.ref f) [.ref x]) (fun it s' => ∃ T' r, s'.TypeIs it T' ∧ typeLookup (.type T') (Str.ofString "__next__") = pure (some r) ∧ Q it s') E s) : wpAny (model prog w) A (pyIter (.ref x)) Q E s := by
  unfold pyIter
  refine wpAny_bind (wpAny_bind (I.type.here ((looks_findIn X hs).here ?_)))
  show wpAny _ A (callSpecialIfBoundUnlessNone? (.ref x) (Str.ofString "__iter__") _ >>= _) Q E s
  refine wpAny_bind ?_
  simp only [callSpecialIfBoundUnlessNone?, bindSpecialIfBound?]
  refine wpAny_holding (wpAny_bind (wpAny_bind (wpAny_bind (I.type.here ((looks_findIn X hs).here ?_)))))
  refine wpAny_bind (wpAny_askSetting (wpAny_ite ?_))
  have fin : wpAny (model prog w) A (if (Value.ref f == Value.none) = true then ((do rule "iter.none"; raiseError "TypeError" s!"'{← typeNameOf (.ref x)}' object is not iterable" : Sem Value) >>= fun v => pure (some v)) else (call (.ref f) [.ref x] >>= fun v => pure (some v)))
      (fun o s' => wpAny (model prog w) A (match o with
        | some it => do
          match ← specialOf it (Str.ofString "__next__") with
          | none => rule "iter.non-iterator"; raiseError "TypeError" s!"iter() returned non-iterator of type '{← typeNameOf it}'"
          | some _ => pure it
        | none => do
          match ← bindSpecialIfBound? (.ref x) (Str.ofString "__getitem__") with
          | none => rule "iter.not-iterable"; raiseError "TypeError" s!"'{← typeNameOf (.ref x)}' object is not iterable"
          | some _ => rule "iter.getitem-fallback"; newFields "iterator" [.ref x, ← mkInt 0]) Q E s') E s := by
    rw [if_neg (by simp)]
    refine wpAny_bind (wpAny_mono h (fun it s' hh => wpAny_pure ?_) fun _ _ e => e)
    obtain ⟨T', r, hT, hl, hq⟩ := hh
    exact wpAny_bind (wpAny_specialOf hT hl (wpAny_pure hq))
  split
  · exact wpAny_bind ((bind_fn X _ (beq_iff_eq.mp hf)).here (wpAny_pure fin))
  · exact wpAny_tryCatch (wpAny_bind ((bind_fn X _ (beq_iff_eq.mp hf)).here (wpAny_pure fin)))
theorem iter_listN {prog : Program} {w : World} {A : Around} {E : Value → Shared → Prop} {s : Shared} {g : Heap} {L l : Addr} {m : Str → Option Value} {news : Led} {its : Array Value} {c : Nat} {Q : Value → Shared → Prop} (F : Fr g L s.heap m) (N : News g L s.heap news) (hl : (l, listOf its c) ∈ news)
    (h : ∀ I h', Fr g L h' m → News g L h' ((I, liObj l 0) :: news) → (∀ q ∈ news, q.1 < I) → Q (.ref I) { s with heap := h' }) : wpAny (model prog w) A (call (.builtin "iter") [.ref l]) Q E s := by
  refine call_function_entry (by decide +kernel) (by decide +kernel) kdk_entry_iter (kdk_args_iter _) ?_
  unfold Builtin.«iter»
  refine wpAny_bind (m := someArgs "iter" 1 2 _) (wpAny_of_eq (a := [Value.ref l]) (by first | rfl | kernel_rfl!) ?_)
  show wpAny _ _ (pyIter (.ref l) >>= _) _ _ _
  refine wpAny_bind (wpAny_pyIter_list (Own.isList_of (N _ hl).1) ?_)
  exact wpAny_pure ⟨_, rfl, h _ _ (keep_fr F fun b o e => Heap.get?_push_of_some _ e) (news_fresh F N (fun b o e => Heap.get?_push_of_some (liObj l 0) e) (Heap.get?_push_size _ rfl)) fun q hq => Heap.lt_size (N q hq).1⟩
end
section
local macro_rules | `(tactic| walk_at "call builtin:iter") => `(tactic| (k_here; (with_reducible show wpAny _ _ (call (Value.builtin "iter") [Value.ref _]) _ _ _); refine' iter_listN ?my_f ?my_n ?my_m ?_; (case my_f => k_asm); (case my_n => k_asm); (case my_m => k_mem); intro I' h' F' N' l1; (try k_lt l1)))
section
variable {w : World} {mg mb : Str → Option Value} {bm : Addr} {ob : Obj}
theorem siter_spec (x dx lm ls : Addr) (n : Int) (t : Tok) (its : Array Value) (c : Nat) : SP w mg mb bm ob 3 40 135 [.ref x] [] [(x, sgsObj dx n t lm ls), (dx, dictOf [] 0), (ls, listOf its c)]
      (fun r nw => ∃ I, r = .ref I ∧ ∀ q ∈ [(I, liObj ls 0), (x, sgsObj dx n t lm ls), (dx, dictOf [] 0), (ls, listOf its c)], q ∈ nw) := by
  walk_at "my_start"
  intro dp un gd L outer A₀ base g h₁ gn d' tk os C F N hsub hG hdp hu
  have X' := C.X
  have T' := C.T
  have B' := C.B
  have M' := C.M
  have hbx := news_ne N (a := x) (b := dx) (by k_mem) (by k_mem) ref_ne_type
  (try dsimp only)
  (try k_fold)
  k_steps
  walk_at "my_ret"
  exact ⟨_, rfl, by walk_at "my_mems"⟩
theorem iter_inst : PySem.Challenge.rw_im0109_02.row.prog = PySem.Challenge.rw_im0109_02.row.prog → findIn (hd.heap_39 w.params) (.ref 147) (Str.ofString "__iter__") = some (some (.ref 135)) ∧ isFn (hd.heap_39 w.params) (.ref 135) = true := by
  w_on
  k_fill
  intro _
  exact ⟨by k_is, by k_is⟩
end
end
section
variable {w : World} {mg mb : Str → Option Value} {bm : Addr} {ob : Obj}
def encS (vr : Int) (s : Sg) : List Int := bitsOf s.mode 4 ++ ((if s.mode = 13 then bitsOf 1 4 else []) ++ (bitsOf s.count (wid s.mode vr) ++ s.bits))
def bitsUp (vr : Int) (sgs : List Sg) (i : Nat) : List Int := (sgs.take i).flatMap (encS vr)
theorem encS_len {vr : Int} {b : Array UInt8} {n : Nat} (hb : b.size = 2 * n) (hn : n ≤ 8) {s : Sg} (h : SgOk b n s) : (encS vr s).length ≤ 160 := by
  have h1 := segBits_len hb s.mode
  rw [← h.1] at h1
  have h2 := wid_le s.mode vr
  unfold encS
  rw [List.length_append, List.length_append, List.length_append, bitsOf_len, bitsOf_len]
  have h3 : (if s.mode = 13 then bitsOf 1 4 else []).length ≤ 4 := by
    split
    · rw [bitsOf_len]; exact Nat.le_refl _
    · simp
  omega
theorem bitsUp_len {vr : Int} {b : Array UInt8} {n : Nat} (hb : b.size = 2 * n) (hn : n ≤ 8) {sgs : List Sg} (h : ∀ s ∈ sgs, SgOk b n s) : ∀ i, (bitsUp vr sgs i).length ≤ 160 * i
  | 0 => by simp [bitsUp]
  | i + 1 => by
    have ih := bitsUp_len (vr := vr) hb hn h i
    unfold bitsUp at ih ⊢
    rw [List.take_add_one, List.flatMap_append, List.length_append]
    cases hz : sgs[i]? with
    | none => simp only [Option.toList_none, List.flatMap_nil, List.length_nil]; omega
    | some s =>
      have := encS_len (vr := vr) hb hn (h s (List.mem_of_getElem? hz))
      simp only [Option.toList_some, List.flatMap_cons, List.flatMap_nil, List.append_nil]
      omega
theorem bitsUp_succ {vr : Int} {sgs : List Sg} {i : Nat} {s : Sg} (hz : sgs[i]? = some s) : bitsUp vr sgs (i + 1) = bitsUp vr sgs i ++ encS vr s := by
  unfold bitsUp
  rw [List.take_add_one, hz, List.flatMap_append]
  simp
theorem ws_all (b dx d : Addr) (bs : List Int) (s : Sg) (vr : Int) (hm : s.mode = 4 ∨ s.mode = 8 ∨ s.mode = 13) (hvr : vr = 1 ∨ vr = 2 ∨ vr = 3) (tv : Tok) (ps : Array Value) (hps : TriplesOk ps.toList) (hbl : bs.length + s.bits.length ≤ 100000) (hdd : @Ne Nat d s.dd) :
    SPR w mg mb bm ob 8 120 37 [.ref b, .ref s.x, .none, .int vr tv] [] ([(b, bufObj dx d), (dx, dictOf [] 0), (d, baObj bs), (268, X.tableObj ps)] ++ s.led)
      (fun r nw => r = .none ∧ ∃ ps', TriplesOk ps'.toList ∧ nw = (b, bufObj dx d) :: (dx, dictOf [] 0) :: (d, baObj (bs ++ encS vr s)) :: (268, X.tableObj ps') :: s.led) := by
  have key : ∀ m : Int, (m = 4 ∨ m = 8) → (if m = 13 then bitsOf 1 4 else []) = [] := fun m h => by rcases h with rfl | rfl <;> rfl
  rcases hm with h | h | h
  · refine (ws_spec b dx d s.x s.dx s.dd bs s.bits s.count s.mode vr (.inl h) hvr s.tc s.tm tv s.e ps hps hbl hdd).mono fun v nw hP => ?_
    obtain ⟨hv, ps', hps', e⟩ := hP
    refine ⟨hv, ps', hps', ?_⟩
    rw [e]
    simp only [encS, key s.mode (.inl h), List.nil_append, List.append_assoc]
  · refine (ws_spec b dx d s.x s.dx s.dd bs s.bits s.count s.mode vr (.inr h) hvr s.tc s.tm tv s.e ps hps hbl hdd).mono fun v nw hP => ?_
    obtain ⟨hv, ps', hps', e⟩ := hP
    refine ⟨hv, ps', hps', ?_⟩
    rw [e]
    simp only [encS, key s.mode (.inr h), List.nil_append, List.append_assoc]
  · refine (ws13_spec b dx d s.x s.dx s.dd bs s.bits s.count s.mode vr h hvr s.tc s.tm tv s.e ps hps hbl hdd).mono fun v nw hP => ?_
    obtain ⟨hv, ps', hps', e⟩ := hP
    refine ⟨hv, ps', hps', ?_⟩
    rw [e]
    simp only [encS, if_pos h, List.append_assoc]
theorem good_mode {b : Array UInt8} {n : Nat} {m : Int} (h : Good b n m) : m = 4 ∨ m = 8 ∨ m = 13 := by
  rcases h with h | ⟨h, _⟩ | ⟨h, _⟩
  · exact .inl h
  · exact .inr (.inl h)
  · exact .inr (.inr h)
theorem vrange_3 (v : Int) : vrange v = 1 ∨ vrange v = 2 ∨ vrange v = 3 := by unfold vrange; (repeat' split) <;> simp
def P21 (ns : List Int) (m : Str → Option Value) (news : Led) : Prop :=
  ∃ (x dx lm ls DU b bdx bd : Addr) (nn : Int) (tt tv : Tok) (c1 c2 cd : Nat) (ps : Array Value) (sgs : List Sg) (ds : List Value) (rest2 : Led) (u : Str → Option Value), m = mG DU x b (verOf ns) tv u ∧ news = (b, bufObj bdx bd) :: (bdx, dictOf [] 0) :: (bd, baObj (bitsUp (vrange (verOf ns)) sgs sgs.length)) :: (268, X.tableObj ps) :: gRest x dx lm ls DU nn tt c1 c2 cd sgs ds rest2 ∧
    TriplesOk ps.toList ∧ sgs.map (·.mode) = kms (allK (bOf ns) (nOf ns)) (allH (bOf ns) (nOf ns)) 5 ∧ (∀ s ∈ sgs, SgOk (bOf ns) (nOf ns) s) ∧ RunsIn rest2 ds ((kms (allK (bOf ns) (nOf ns)) (allH (bOf ns) (nOf ns)) 5).map fun m => (m, octs1 ns))
theorem gI_ne {g h : Heap} {L I x dx lm ls DU b bdx bd : Addr} {i : Nat} {nn : Int} {tt : Tok} {c1 c2 cd : Nat} {sgs : List Sg} {ds : List Value} {rest2 : Led} {ps : Array Value} {bs : List Int} (N : News g L h ((I, liObj ls i) :: (b, bufObj bdx bd) :: (bdx, dictOf [] 0) :: (bd, baObj bs) :: (268, X.tableObj ps) :: gRest x dx lm ls DU nn tt c1 c2 cd sgs ds rest2)) (hcl : ∀ q ∈ rest2, q.2.cls = .type "list") :
    ∀ q ∈ (b, bufObj bdx bd) :: (bdx, dictOf [] 0) :: (bd, baObj bs) :: (268, X.tableObj ps) :: gRest x dx lm ls DU nn tt c1 c2 cd sgs ds rest2, q.1 ≠ I := by
  intro q hq
  obtain ⟨qa, qo⟩ := q
  refine news_ne N (a := qa) (b := I) (o := qo) (o' := liObj ls i) (.tail _ hq) (.head _) ?_
  show qo.cls ≠ Value.type "list_iterator"
  have : qo.cls = .ref 305 ∨ qo.cls = .none ∨ qo.cls = .ref 147 ∨ qo.cls = .type "dict" ∨ qo.cls = .type "list" ∨ qo.cls = .ref 239 ∨ qo.cls = .type "bytearray" := by
    simp only [gRest, List.mem_cons, List.mem_append, Prod.mk.injEq] at hq
    rcases hq with ⟨_, rfl⟩ | ⟨_, rfl⟩ | ⟨_, rfl⟩ | ⟨_, rfl⟩ | ⟨_, rfl⟩ | ⟨_, rfl⟩ | ⟨_, rfl⟩ | ⟨_, rfl⟩ | ⟨_, rfl⟩ | hq | hq
    · exact .inl rfl
    · exact .inr (.inr (.inr (.inl rfl)))
    · exact .inr (.inr (.inr (.inr (.inr (.inr rfl)))))
    · exact .inr (.inl rfl)
    · exact .inr (.inr (.inl rfl))
    · exact .inr (.inr (.inr (.inl rfl)))
    · exact .inr (.inr (.inr (.inr (.inl rfl))))
    · exact .inr (.inr (.inr (.inr (.inl rfl))))
    · exact .inr (.inr (.inr (.inr (.inl rfl))))
    · rcases sgs_cls hq with h | h | h
      · exact .inr (.inr (.inr (.inr (.inr (.inl h)))))
      · exact .inr (.inr (.inr (.inl h)))
      · exact .inr (.inr (.inr (.inr (.inr (.inr h)))))
    · exact .inr (.inr (.inr (.inr (.inl (hcl _ hq)))))
  rcases this with h | h | h | h | h | h | h <;> (rw [h]; simp)
theorem gRest_led {x dx lm ls DU : Addr} {nn : Int} {tt : Tok} {c1 c2 cd : Nat} {sgs : List Sg} {ds : List Value} {rest2 : Led} {q : Addr × Obj} (h : q ∈ sgs.flatMap Sg.led) : q ∈ gRest x dx lm ls DU nn tt c1 c2 cd sgs ds rest2 :=
  .tail _ (.tail _ (.tail _ (.tail _ (.tail _ (List.mem_append_left _ h)))))
end
section
local macro_rules | `(tactic| walk_at "call ref") => `(tactic| ((with_reducible show wpAny _ _ (call (Value.ref 92) _) _ _ _); k_dflt (refine' Own.Spec.useV (version_range_spec _ _ ?a1 ?a2) ?a5 ?a6 ?a7 ?a8 ?a9 ?a10 ?a11 ?_; (case a1 => omega); (case a2 => omega); (case a5 => assumption); (case a6 => k_asm); (case a7 => k_asm); (case a8 => rfl); (case a9 => assumption); (case a10 => omega); (case a11 => omega)); rintro v' nw' h' tk' g' ⟨tq', hv'⟩ F' N' hG'; subst hv'; (try dsimp only)))
section
local macro_rules | `(tactic| walk_at "my_dummy") => `(tactic| fail)
variable {w : World} {mg mb : Str → Option Value} {bm : Addr} {ob : Obj}
theorem part9 (ns : List Int) : WalkL w mg mb bm ob 327 (fun b => (b.drop 20).take 1) (P20 ns) (PostQ (P21 ns)) := by
  w_on
  delta WalkL
  k_fill
  refine' walkL_of ?ho ?hb; (case ho => k_is)
  intro dp un gd fa L outer A₀ g h₁ gn d' tk os mm news C F N hpre hG hd' hu
  obtain ⟨x, dx, lm, ls, DU, b, bdx, bd, nn, tt, tv, c1, c2, cd, ps, sgs, ds, rest2, u, rfl, rfl, hps, hmd, hok, hr2, hll, hcl2, hsep⟩ := hpre
  simp only [List.drop_succ_cons, List.drop_zero, List.take_succ_cons, List.take_zero]
  have X' := C.X
  have T' := C.T
  have B' := C.B
  have M' := C.M
  have hln := nums_len ns
  have hb := size_bytes ns
  have hn8 : (nums ns).length - 2 ≤ 8 := by omega
  have hvr : 1 ≤ verOf ns ∧ verOf ns ≤ 40 := by unfold verOf; omega
  have hsl : sgs.length ≤ 5 := by
    have := congrArg List.length hmd
    rw [List.length_map] at this
    rw [this]
    exact Nat.le_trans (List.length_filter_le _ _) (by decide)
  refine wpR_execs_cons (wpR_For ?_)
  (try k_fold)
  k_steps
  refine pyIter_K (C.X.keeps F.keep) (InstAt.of_news N (show (x, sgsObj dx nn tt lm ls) ∈ _ by simp [gRest]) (show (dx, dictOf [] 0) ∈ _ by simp [gRest])) (iter_inst rfl).1 (iter_inst rfl).2 ?_
  refine Own.Spec.use (siter_spec x dx lm ls nn tt (sgs.map fun s => Value.ref s.x).toArray c1) C F N rfl (by intro q hq; simp only [List.mem_cons, List.not_mem_nil, or_false] at hq; rcases hq with h | h | h <;> simp [gRest, h]) hG (by omega) (by omega) fun v5 nw5 h5 tk5 g5 hP5 F5 N5' hap5 G5 => ?_
  obtain ⟨I, rfl, hq5⟩ := hP5
  have N6 := Own.keep_led N (by intro q hq; simp only [List.mem_cons, List.not_mem_nil, or_false] at hq; rcases hq with h | h | h <;> simp [gRest, h]) (fun q hq => hq5 q (.tail _ hq)) N5'
  have N7 : News g L h5 ((I, liObj ls 0) :: _) := fun q hq => (List.mem_cons.mp hq).elim (fun e => N5' [(I, liObj ls 0)] (fun r hr => .inl (by rw [List.mem_singleton.mp hr]; exact hq5 _ (.head _))) q (by rw [e]; exact .head _)) (fun h => N6 q h)
  have hapI : ∀ q ∈ (b, bufObj bdx bd) :: (bdx, dictOf [] 0) :: (bd, baObj []) :: (268, X.tableObj ps) :: gRest x dx lm ls DU nn tt c1 c2 cd sgs ds rest2, q.1 ≠ I := gI_ne N7 hcl2
  refine ⟨"list_iterator", _, ⟨_, (N7 _ (.head _)).1, rfl⟩, slot_listiter_next.lookup, ?_⟩
  refine forR (n := (sgs.map fun s => Value.ref s.x).toArray.size) (ob := fun i => liObj ls i) (Steps.list rfl I ls _ c1) trivial rfl rfl
      (fun i m₁ nw => ∃ u ps', m₁ = mG DU x b (verOf ns) tv u ∧ TriplesOk ps'.toList ∧ nw = (b, bufObj bdx bd) :: (bdx, dictOf [] 0) :: (bd, baObj (bitsUp (vrange (verOf ns)) sgs i)) :: (268, X.tableObj ps') :: gRest x dx lm ls DU nn tt c1 c2 cd sgs ds rest2)
      ?_ F5 N7 hapI G5 ⟨u, ps, rfl, hps, rfl⟩ ?_ ?_
  · rintro i m₁ nw h ⟨u', ps', rfl, _, rfl⟩ N
    exact (N (ls, listOf (sgs.map fun s => Value.ref s.x).toArray c1) (by simp [gRest])).1
  · rintro i v m₁ news₁ h3 tk3 gn3 hi hv ⟨u', ps', rfl, hps', rfl⟩ hap3 F3 N3 hG3
    obtain ⟨s, hz, rfl⟩ : ∃ s, sgs[i]? = some s ∧ v = .ref s.x := by
      simp only [List.getElem?_toArray, List.getElem?_map, Option.map_eq_some_iff] at hv
      obtain ⟨s, h1, h2⟩ := hv
      exact ⟨s, h1, h2.symm⟩
    have hsm : s ∈ sgs := List.mem_of_getElem? hz
    have hsok := hok s hsm
    have hsl' : s.bits.length ≤ 16 * nOf ns := by rw [hsok.1]; exact segBits_len hb s.mode
    have hup := bitsUp_len (vr := vrange (verOf ns)) hb hn8 hok i
    have hi5 : i < 5 := by simp at hi; omega
    have hnO : nOf ns ≤ 8 := hn8
    have hsin : ∀ q ∈ s.led, q ∈ sgs.flatMap Sg.led := fun q hq => List.mem_flatMap.mpr ⟨s, hsm, hq⟩
    refine wpR_execs_cons (wpR_Expr (wpR_CallName ?_))
    (try k_fold)
    k_steps
    refine wpR_callK (K := Mine02.hd.heap_39 w.params) (by k_is) ?_
    (try k_fold)
    k_steps
    (try dsimp only [List.cons_append, List.nil_append])
    have F8 := ‹Fr g L _ _›
    have N8 := ‹News g L _ _›
    have hdd : @Ne Nat bd s.dd := fun e => (hsep (s.dd, baObj s.bits) (gRest_led (hsin _ (by simp [Sg.led])))).1 e.symm
    have hsubW : ∀ q ∈ [(b, bufObj bdx bd), (bdx, dictOf [] 0), (bd, baObj (bitsUp (vrange (verOf ns)) sgs i)), (268, X.tableObj ps')] ++ s.led, q ∈ (I, liObj ls (i + 1)) :: (b, bufObj bdx bd) :: (bdx, dictOf [] 0) :: (bd, baObj (bitsUp (vrange (verOf ns)) sgs i)) :: (268, X.tableObj ps') :: gRest x dx lm ls DU nn tt c1 c2 cd sgs ds rest2 := by
      intro q hq
      rcases List.mem_append.mp hq with hq | hq
      · simp only [List.mem_cons, List.not_mem_nil, or_false] at hq
        rcases hq with h | h | h | h <;> simp [h]
      · exact .tail _ (.tail _ (.tail _ (.tail _ (.tail _ (gRest_led (hsin q hq))))))
    refine Own.SpecR.use (ws_all b bdx bd (bitsUp (vrange (verOf ns)) sgs i) s (vrange (verOf ns)) (good_mode hsok.2.2.2) (vrange_3 _) _ ps' hps' (by omega) hdd) C F8 N8 rfl hsubW ‹AllBare _› (by omega) (by omega) fun v9 nw9 h9 tk9 g9 hP9 F9 N9 hap9 G9 => ?_
    obtain ⟨rfl, ps2, hps2, rfl⟩ := hP9
    have N10 := Own.upd_led [bd, 268] (rest := (I, liObj ls (i + 1)) :: gRest x dx lm ls DU nn tt c1 c2 cd sgs ds rest2) N8 hsubW (fun q hq => by
      rcases List.mem_append.mp hq with hq | hq
      · simp only [List.mem_cons, List.not_mem_nil, or_false] at hq
        rcases hq with h | h | h | h <;> simp [h]
      · exact .inr (.tail _ (.tail _ (.tail _ (.tail _ hq))))) N9 (fun q hq => by
      rcases List.mem_cons.mp hq with rfl | hq
      · refine ⟨.head _, fun hm => ?_⟩
        simp only [List.mem_cons, List.not_mem_nil, or_false] at hm
        rcases hm with h | h
        · exact hap3 (bd, baObj (bitsUp (vrange (verOf ns)) sgs i)) (by simp) h.symm
        · exact hap3 (268, X.tableObj ps') (by simp) h.symm
      · refine ⟨.tail _ (.tail _ (.tail _ (.tail _ (.tail _ hq)))), fun hm => ?_⟩
        simp only [List.mem_cons, List.not_mem_nil, or_false] at hm
        rcases hm with h | h
        · exact (hsep q hq).1 h
        · exact (hsep q hq).2 h)
    rw [← bitsUp_succ hz] at N10
    have N11 : News g L h9 ((I, liObj ls (i + 1)) :: (b, bufObj bdx bd) :: (bdx, dictOf [] 0) :: (bd, baObj (bitsUp (vrange (verOf ns)) sgs (i + 1))) :: (268, X.tableObj ps2) :: gRest x dx lm ls DU nn tt c1 c2 cd sgs ds rest2) := news_sub N10 (fun q hq => by
      rcases List.mem_cons.mp hq with h | hq
      · exact List.mem_append_right _ (by rw [h]; exact .head _)
      · simp only [List.cons_append]
        rcases List.mem_cons.mp hq with h | hq
        · rw [h]; exact .head _
        · refine .tail _ ?_
          rcases List.mem_cons.mp hq with h | hq
          · rw [h]; exact .head _
          · refine .tail _ ?_
            rcases List.mem_cons.mp hq with h | hq
            · rw [h]; exact .head _
            · refine .tail _ ?_
              rcases List.mem_cons.mp hq with h | hq
              · rw [h]; exact .head _
              · exact List.mem_cons_of_mem _ (List.mem_cons_of_mem _ (List.mem_cons_of_mem _ (List.mem_cons_of_mem _ (List.mem_cons_of_mem _ hq)))))
    refine ⟨rfl, wpR_execs_nil ?_⟩
    exact ⟨_, _, ⟨_, ps2, rfl, hps2, rfl⟩, gI_ne N11 hcl2, fr_of F9 (mG_of rfl rfl rfl rfl), N11, G9, rfl, rfl⟩
  · rintro m' news' h4 tk4 gn4 ⟨u', ps', rfl, hps', rfl⟩ F4 N4 hG4
    repeat (refine wpR_execs_nil ?_; (try dsimp only))
    refine ⟨rfl, _, _, F4, N4, ⟨x, dx, lm, ls, DU, b, bdx, bd, nn, tt, tv, c1, c2, cd, ps', sgs, ds, rest2, u', rfl, ?_, hps', hmd, hok, hr2⟩, hG4, rfl, rfl⟩
    simp
end
section
variable {w : World} {mg mb : Str → Option Value} {bm : Addr} {ob : Obj}
def valR (b : Array UInt8) (m : Int) (j : Nat) : Int := if m = 4 then ((b.getD j 0).toNat : Int) else if m = 8 then kanjiV ((b.getD (2 * j) 0).toNat : Int) ((b.getD (2 * j + 1) 0).toNat : Int) else hanziV ((b.getD (2 * j) 0).toNat : Int) ((b.getD (2 * j + 1) 0).toNat : Int)
/-- the segment of a kind, as the reader sees it -/
def toRd (b : Array UInt8) (n : Nat) (m : Int) : Rd := ⟨m, if m = 4 then 2 * n else n, valR b m⟩
theorem flat_one (o : List Int) : ∀ k, o.length = k → ((List.range k).flatMap fun j => [o.getD j 0]) = o := by
  induction o with
  | nil => intro k hk; subst hk; rfl
  | cons x o ih =>
    intro k hk
    subst hk
    rw [List.length_cons, List.range_succ_eq_map, List.flatMap_cons, List.flatMap_map]
    have := ih o.length rfl
    simp only [List.getD_cons_zero, List.getD_cons_succ, List.singleton_append]
    rw [this]
theorem flat_two : ∀ (n : Nat) (o : List Int), o.length = 2 * n → ((List.range n).flatMap fun j => [o.getD (2 * j) 0, o.getD (2 * j + 1) 0]) = o
  | 0, o, h => by
    have : o = [] := List.length_eq_zero_iff.mp (by omega)
    subst this; rfl
  | n + 1, [], h => by simp at h
  | n + 1, [x], h => by simp at h; omega
  | n + 1, x :: y :: o, h => by
    have ih := flat_two n o (by simp at h; omega)
    rw [List.range_succ_eq_map, List.flatMap_cons, List.flatMap_map]
    have e : (fun j => [(x :: y :: o).getD (2 * (j + 1)) 0, (x :: y :: o).getD (2 * (j + 1) + 1) 0]) = fun j => [o.getD (2 * j) 0, o.getD (2 * j + 1) 0] := by
      funext j
      rw [show 2 * (j + 1) = 2 * j + 1 + 1 by omega]
      simp only [List.getD_cons_succ]
    show [x, y] ++ _ = _
    rw [show ((List.range n).flatMap fun a => [(x :: y :: o).getD (2 * a.succ) 0, (x :: y :: o).getD (2 * a.succ + 1) 0]) = (List.range n).flatMap (fun j => [(x :: y :: o).getD (2 * (j + 1)) 0, (x :: y :: o).getD (2 * (j + 1) + 1) 0]) from rfl, e, ih]
    rfl
theorem flat_congr {f g : Nat → List Int} {n : Nat} (h : ∀ j, j < n → f j = g j) : (List.range n).flatMap f = (List.range n).flatMap g := by
  induction n with
  | zero => rfl
  | succ n ih =>
    rw [List.range_succ, List.flatMap_append, List.flatMap_append, ih (fun j hj => h j (by omega))]
    simp [h n (by omega)]
theorem allK_at {b : Array UInt8} {n : Nat} (h : allK b n = true) {j : Nat} (hj : j < n) : pairK ((b.getD (2 * j) 0).toNat : Int) ((b.getD (2 * j + 1) 0).toNat : Int) = true := List.all_eq_true.mp h j (List.mem_range.mpr hj)
theorem allH_at {b : Array UInt8} {n : Nat} (h : allH b n = true) {j : Nat} (hj : j < n) : pairH ((b.getD (2 * j) 0).toNat : Int) ((b.getD (2 * j + 1) 0).toNat : Int) = true := List.all_eq_true.mp h j (List.mem_range.mpr hj)
theorem snd_range (ns : List Int) {j : Nat} (hj : j < nOf ns) : 161 ≤ (((bOf ns).getD (2 * j + 1) 0).toNat : Int) ∧ (((bOf ns).getD (2 * j + 1) 0).toNat : Int) ≤ 252 := by
  rw [ba_getD _ octs1_in]
  exact ⟨octs1_snd ns j hj, octs1_snd_le ns j hj⟩
theorem rd_ok (ns : List Int) {m : Int} (hg : Good (bOf ns) (nOf ns) m) : RdOk (toRd (bOf ns) (nOf ns) m) := by
  have hn := nums_len ns
  have hn8 : nOf ns ≤ 8 := by show (nums ns).length - 2 ≤ 8; omega
  refine ⟨good_mode hg, ?_, fun j hj => ?_⟩
  · show (if m = 4 then 2 * nOf ns else nOf ns) ≤ 99
    split <;> omega
  · rcases hg with rfl | ⟨rfl, h⟩ | ⟨rfl, h⟩
    · have : ((bOf ns).getD j 0).toNat < 256 := ((bOf ns).getD j 0).toNat_lt
      show 0 ≤ (((bOf ns).getD j 0).toNat : Int) ∧ (((bOf ns).getD j 0).toNat : Int) < 2 ^ 8
      omega
    · have hj' : j < nOf ns := hj
      have := kanji_back (snd_range ns hj') (allK_at h hj')
      exact ⟨this.1, this.2.1⟩
    · have hj' : j < nOf ns := hj
      have := hanzi_back (snd_range ns hj') (allH_at h hj')
      exact ⟨this.1, this.2.1⟩
theorem rd_oct (ns : List Int) {m : Int} (hg : Good (bOf ns) (nOf ns) m) : octR (toRd (bOf ns) (nOf ns) m) (toRd (bOf ns) (nOf ns) m).cnt = octs1 ns := by
  have hl := octs1_len ns
  rcases hg with rfl | ⟨rfl, h⟩ | ⟨rfl, h⟩
  · show ((List.range (2 * nOf ns)).flatMap fun j => [(((bOf ns).getD j 0).toNat : Int)]) = _
    rw [flat_congr (g := fun j => [(octs1 ns).getD j 0]) (fun j _ => by rw [ba_getD _ octs1_in])]
    exact flat_one _ _ hl
  · show ((List.range (nOf ns)).flatMap fun j => outR 8 (kanjiV (((bOf ns).getD (2 * j) 0).toNat : Int) (((bOf ns).getD (2 * j + 1) 0).toNat : Int))) = _
    rw [flat_congr (g := fun j => [(octs1 ns).getD (2 * j) 0, (octs1 ns).getD (2 * j + 1) 0]) (fun j hj => by
      have hk := kanji_back (snd_range ns hj) (allK_at h hj)
      show [_, _] = _
      rw [hk.2.2.1, hk.2.2.2, ba_getD _ octs1_in, ba_getD _ octs1_in])]
    exact flat_two _ _ hl
  · show ((List.range (nOf ns)).flatMap fun j => outR 13 (hanziV (((bOf ns).getD (2 * j) 0).toNat : Int) (((bOf ns).getD (2 * j + 1) 0).toNat : Int))) = _
    rw [flat_congr (g := fun j => [(octs1 ns).getD (2 * j) 0, (octs1 ns).getD (2 * j + 1) 0]) (fun j hj => by
      have hk := hanzi_back (snd_range ns hj) (allH_at h hj)
      show [_, _] = _
      rw [hk.2.2.1, hk.2.2.2, ba_getD _ octs1_in, ba_getD _ octs1_in])]
    exact flat_two _ _ hl
theorem rd_enc {b : Array UInt8} {n : Nat} (hb : b.size = 2 * n) {vr : Int} {s : Sg} (h : SgOk b n s) : encS vr s = encR vr (toRd b n s.mode) := by
  obtain ⟨h1, h2, _, hg⟩ := h
  unfold encS encR
  rw [h1, h2]
  rcases good_mode hg with e | e | e
  · rw [e]
    simp only [segBits, segCount, toRd, if_true, hb]
    rfl
  · rw [e]
    rfl
  · rw [e]
    rfl
theorem up_enc {b : Array UInt8} {n : Nat} (hb : b.size = 2 * n) {vr : Int} {sgs : List Sg} (h : ∀ s ∈ sgs, SgOk b n s) : bitsUp vr sgs sgs.length = (sgs.map fun s => toRd b n s.mode).flatMap (encR vr) := by
  unfold bitsUp
  rw [List.take_length]
  induction sgs with
  | nil => rfl
  | cons s sgs ih =>
    rw [List.flatMap_cons, List.map_cons, List.flatMap_cons, rd_enc hb (h s (.head _)), ih (fun s hs => h s (.tail _ hs))]
theorem runs_all (ns : List Int) {sgs : List Sg} (h : ∀ s ∈ sgs, SgOk (bOf ns) (nOf ns) s) : (sgs.map fun s => toRd (bOf ns) (nOf ns) s.mode).map runR = (sgs.map (·.mode)).map fun m => (m, octs1 ns) := by
  rw [List.map_map, List.map_map]
  refine List.map_congr_left fun s hs => ?_
  show (s.mode, _) = (s.mode, octs1 ns)
  rw [rd_oct ns (h s hs).2.2.2]
theorem up_01 (vr : Int) (b : Array UInt8) (n : Nat) (sgs : List Sg) (h : ∀ s ∈ sgs, SgOk b n s) (i : Nat) : ∀ x ∈ bitsUp vr sgs i, 0 ≤ x ∧ x < 256 := by
  intro x hx
  obtain ⟨s, hs, hx⟩ := List.mem_flatMap.mp hx
  have hs := h s (List.mem_of_mem_take hs)
  unfold encS at hx
  rcases List.mem_append.mp hx with hx | hx
  · exact bitsOf_01 _ _ x hx
  · rcases List.mem_append.mp hx with hx | hx
    · split at hx
      · exact bitsOf_01 _ _ x hx
      · cases hx
    · rcases List.mem_append.mp hx with hx | hx
      · exact bitsOf_01 _ _ x hx
      · rw [hs.1] at hx; exact segBits_01 _ _ _ x hx
end
end
section
variable {w : World} {mg mb : Str → Option Value} {bm : Addr} {ob : Obj}
theorem modes_ints : ∀ sgs : List Sg, IntsAre (sgs.map fun s => Value.int s.mode s.tm) (sgs.map (·.mode))
  | [] => .nil
  | s :: sgs => .cons _ _ (modes_ints sgs)
def RetQ (g : Heap) (L : Addr) (d : Drawn) (os : OsState) (f : Flow) (s' : Shared) : Prop := f = .ret (.bool true) ∧ ∃ m ps, Fr g L s'.heap m ∧ News g L s'.heap [(268, X.tableObj ps)] ∧ AllBare s'.gens ∧ s'.drawn = d ∧ s'.os = os
end
section
local macro_rules | `(tactic| walk_at "call ref") => `(tactic| ((with_reducible show wpAny _ _ (call (Value.ref 280) _) _ _ _); k_dflt (refine' Own.Spec.useS (getbits_spec _ _ _) ?my_s ?a5 ?a6 ?a7 ?a8 ?a9 ?a10 ?a11 ?a12 ?_; (case my_s => (intro v nw hp; rw [hp.2]; exact fun q hq => hq)); (case a5 => assumption); (case a6 => k_asm); (case a7 => k_asm); (case a8 => rfl); (case a9 => walk_at "my_mems"); (case a10 => assumption); (case a11 => omega); (case a12 => omega)); rintro v' nw' h' tk' g' ⟨hv', hnw'⟩ F' N' hG'; subst hv'; (try dsimp only)))
section
variable {w : World} {mg mb : Str → Option Value} {bm : Addr} {ob : Obj}
theorem part10 (ns : List Int) : WalkL w mg mb bm ob 327 (fun b => b.drop 21) (P21 ns) (RetQ) := by
  w_on
  delta WalkL
  k_fill
  refine' walkL_of ?ho ?hb; (case ho => k_is)
  intro dp un gd fa L outer A₀ g h₁ gn d' tk os mm news C F N hpre hG hd' hu
  obtain ⟨x, dx, lm, ls, DU, b, bdx, bd, nn, tt, tv, c1, c2, cd, ps, sgs, ds, rest2, u, rfl, rfl, hps, hmd, hok, hr2⟩ := hpre
  simp only [List.drop_succ_cons, List.drop_zero]
  have X' := C.X
  have T' := C.T
  have B' := C.B
  have M' := C.M
  have hvr : 1 ≤ verOf ns ∧ verOf ns ≤ 40 := by unfold verOf; omega
  have hln := nums_len ns
  have hb := size_bytes ns
  have hn8 : (nums ns).length - 2 ≤ 8 := by omega
  have hsl : sgs.length ≤ 5 := by
    have := congrArg List.length hmd
    rw [List.length_map] at this
    rw [this]
    exact Nat.le_trans (List.length_filter_le _ _) (by decide)
  have hdl : ds.length ≤ 5 := by
    have := hr2.len
    rw [List.length_map] at this
    rw [this]
    exact Nat.le_trans (List.length_filter_le _ _) (by decide)
  have hup := bitsUp_len (vr := vrange (verOf ns)) hb hn8 hok sgs.length
  have hbin := up_01 (vrange (verOf ns)) (bOf ns) (nOf ns) sgs hok sgs.length
  (try delta mG at F)
  simp only [gRest] at N
  refine step_num (Str.ofString "row") (vrange (verOf ns) - 1) F N ?_ fun hh2 t2 tk2 gn2 hG2 F2 N2 => ?_
  · (try k_fold)
    k_steps
    all_goals (refine num_mk (by assumption) (by assumption) (by assumption) (fun q hq => hq) ?_; unfold vrange; simp [*])
  · clear F N hG
    refine wpR_execs_cons (wpR_Return (Own.wpR_And2 (Own.wpR_Compare1 ?_)))
    refine wpR_of ?_
    (try k_fold)
    k_steps
    refine (show wpR _ _ (eval (.ListComp _ _ _ _) _) _ _ _ from ?_)
    refine wpR_of (Own.heads_comp (ds := ds) (rs := (kms (allK (bOf ns) (nOf ns)) (allH (bOf ns) (nOf ns)) 5).map fun m => (m, octs1 ns)) rfl (by decide) (by decide) rfl (by decide) (by decide) (by decide) ?_)
    (try k_fold)
    k_steps
    have F5 := ‹Fr g L _ _›
    have N5 := ‹News g L _ _›
    have hrest : ∀ q ∈ rest2, q ∈ (b, bufObj bdx bd) :: (bdx, dictOf [] 0) :: (bd, baObj (bitsUp (vrange (verOf ns)) sgs sgs.length)) :: (268, X.tableObj ps) :: gRest x dx lm ls DU nn tt c1 c2 cd sgs ds rest2 := fun q hq => by simp [gRest, hq]
    refine ⟨DU, rfl, Own.isList_of (N5 (DU, listOf ds.toArray cd) (by k_mem)).1, by omega, (hr2.sub hrest).at N5, fun D hD' tkD ys hDn hDl hDi hDk => ?_⟩
    have F6 := keep_fr F5 hDk
    have N6 : News g L hD' _ := fun q hq => ⟨hDk _ _ (N5 q hq).1, (N5 q hq).2⟩
    refine (show wpAny _ _ (compareOp CmpOp.Eq (Value.ref lm) (Value.ref D)) _ _ _ from ?_)
    refine eq_intsK (vs := sgs.map fun s => Value.int s.mode s.tm) (ns := sgs.map (·.mode)) (Own.isList_of (N6 (lm, listOf (sgs.map fun s => Value.int s.mode s.tm).toArray c2) (by k_mem)).1) (modes_ints sgs) hDl hDi (by show un + 3 + 64 < cLine; omega) ?_
    rw [decide_eq_true (by rw [hmd, List.map_map]; exact (List.map_id _).symm)]
    refine wpAny_truthy_bool ?_
    simp only [if_true]
    clear F5 N5 F2 N2
    refine Own.wpR_Compare1 (wpR_CallName ?_)
    (try k_fold)
    k_steps
    refine wpR_callK (K := Mine02.hd.heap_39 w.params) (by k_is) ?_
    (try k_fold)
    k_steps
    have F9 := ‹Fr g L _ _›
    have N9 := ‹News g L _ ((_, listOf _ _) :: (b, bufObj bdx bd) :: _)›
    have hI9 := ‹IntsAre _ (bitsUp _ _ _)›
    obtain ⟨_, _, _, hlt8, _, _, _, _, hlt1, hlt2⟩ := ‹b < _ ∧ bdx < _ ∧ bd < _ ∧ 268 < _ ∧ x < _ ∧ dx < _ ∧ ls < _ ∧ lm < _ ∧ DU < _ ∧ AllLt _ _›
    have hne := tbn_neAll hlt2
    have hv3 := vrange_3 (verOf ns)
    refine Own.SpecR.use (lread_spec _ (vrange (verOf ns) - 1) t2 _ (bitsUp (vrange (verOf ns)) sgs sgs.length) _ (sgs.map fun s => toRd (bOf ns) (nOf ns) s.mode) hI9 (by omega) (by omega) (fun r hr => by
      obtain ⟨s, hs, rfl⟩ := List.mem_map.mp hr
      exact rd_ok ns (hok s hs).2.2.2) (by rw [show vrange (verOf ns) - 1 + 1 = vrange (verOf ns) by omega]; exact up_enc hb hok) (by rw [List.length_map]; omega)) C F9 N9 rfl (fun q hq => by rw [List.mem_singleton.mp hq]; exact .head _) ‹AllBare _› (by omega) (by omega) fun v12 nw12 h12 tk12 g12 hP12 F12 N12' hap12 G12 => ?_
    obtain ⟨R, rvs, rc, rfl, hR, hrr⟩ := hP12
    have N13 : News g L h12 [(268, X.tableObj ps)] := N12' _ (fun q hq => by
      rw [List.mem_singleton.mp hq]
      exact .inr ⟨by simp, by simpa using Nat.ne_of_lt hlt8⟩)
    have N12 : News g L h12 ((DU, listOf ds.toArray cd) :: (nw12 ++ rest2)) := N12' _ (fun q hq => by
      rcases List.mem_cons.mp hq with rfl | hq
      · exact .inr ⟨by simp, by simpa using Nat.ne_of_lt hlt1⟩
      · rcases List.mem_append.mp hq with hq | hq
        · exact .inl hq
        · exact .inr ⟨by simp [hq], by simpa using hne q (List.mem_append_right _ hq)⟩)
    rw [runs_all ns hok, hmd] at hrr
    clear N12' N9 N6 F9 F6
    refine wpR_of ?_
    (try dsimp only)
    (try k_fold)
    k_steps
    obtain ⟨as1, ra⟩ := reads_runs (h := h12) ⟨_, (N12 (R, listOf (List.toArray rvs) rc) (.tail _ (List.mem_append_left _ hR))).1, rfl, _, rfl⟩ ((hrr.sub (news' := (DU, listOf ds.toArray cd) :: (nw12 ++ rest2)) (fun q hq => .tail _ (List.mem_append_left _ hq))).at N12)
    obtain ⟨as2, rb⟩ := reads_runs (h := h12) ⟨_, (N12 (DU, listOf ds.toArray cd) (.head _)).1, rfl, _, rfl⟩ ((hr2.sub (news' := (DU, listOf ds.toArray cd) :: (nw12 ++ rest2)) (fun q hq => .tail _ (List.mem_append_right _ hq))).at N12)
    refine eq_runs ra rb (by show un + 3 + 64 < cLine; omega) ?_
    rw [decide_eq_true rfl]
    exact ⟨rfl, _, ps, ‹Fr g L _ _›, N13, G12, rfl, rfl⟩
end
section
variable {w : World} {mg mb : Str → Option Value} {bm : Addr} {ob : Obj}
theorem wpR_seq {M : Model} {A : Around} {E : Value → Shared → Prop} {s : Shared} {env : Env} {l₁ l₂ : List Stmt} {Q : Flow → Shared → Prop} (h : wpR M A (execs l₁ env) (fun f s' => f = .next ∧ wpR M A (execs l₂ env) Q E s') E s) : wpR M A (execs (l₁ ++ l₂) env) Q E s := by
  rw [execs_app]
  exact wpR_bind (wpR_mono h (fun f s' ⟨hf, hq⟩ => by subst hf; exact hq) fun _ _ x => x)
/-- from statement i on -/
theorem walk_on {i k : Nat} {P P' : (Str → Option Value) → Led → Prop} {Q : Heap → Addr → Drawn → OsState → Flow → Shared → Prop} (h1 : WalkL w mg mb bm ob 327 (fun b => (b.drop i).take k) P (PostQ P')) (h2 : WalkL w mg mb bm ob 327 (fun b => b.drop (i + k)) P' Q) : WalkL w mg mb bm ob 327 (fun b => b.drop i) P Q := by
  intro b sc q cd hb dp un gd fa L outer A₀ g h₁ gn d tk os m news C F N hp hG hd hu
  have e : b.drop i = (b.drop i).take k ++ b.drop (i + k) := by rw [← List.drop_drop, List.take_append_drop]
  show wpR _ _ (execs (b.drop i) _) _ _ _
  rw [e]
  refine wpR_seq (wpR_mono (h1 b sc q cd hb dp un gd fa L outer A₀ g h₁ gn d tk os m news C F N hp hG hd hu) (fun f s' hq => ?_) (fun _ _ z => z))
  obtain ⟨hf, m', news', F', N', hP', hG', hdr, hos⟩ := hq
  obtain ⟨h', gn', d', tk', os'⟩ := s'
  dsimp only at F' N' hG' hdr hos
  subst hdr; subst hos
  exact ⟨hf, h2 b sc q cd hb dp un gd fa L outer A₀ g h' gn' d' tk' os' m' news' C F' N' hP' hG' hd hu⟩
theorem law_rest (sl : Addr) (ns : List Int) (ps : Array Value) (hps : TriplesOk ps.toList) : WalkL w mg mb bm ob 327 (fun b => b.drop 5) (P5 sl ns ps) RetQ :=
  walk_on (k := 1) (part_L (Gp := fun _ => True) (part2 sl ns ps)) (walk_on (k := 1) (part_L (Gp := fun _ => True) (part3 sl ns ps)) (walk_on (k := 3) (part_L (Gp := fun _ => True) (part4 sl ns ps)) (walk_on (k := 3) (part_L (Gp := fun _ => True) (part5 sl ns ps))
    (walk_on (k := 1) (part6 sl ns ps hps) (walk_on (k := 3) (part7 ns) (walk_on (k := 3) (part8 ns) (walk_on (k := 1) (part9 ns) (part10 ns))))))))
theorem law_body {vs : List Value} {ns : List Int} (hI : IntsAre vs ns) (hlen : ns.length ≤ 63) (sl : Addr) (ps : Array Value) (hps : TriplesOk ps.toList) {b : List Stmt} {sc : Scope} {q : Str} {cd : Value} (hb : fnBody (hd.heap_39 w.params) 327 = some (b, sc, q, cd))
    {dp un : Nat} {gd : Option (List Code)} {fa L : Addr} {outer : List Env} {A₀ : Around} {g h₁ : Heap} {gn : Array GenState} {d : Drawn} {tk : Nat} {os : OsState} (C : CX w mg mb bm ob A₀ g outer g) (hl : g.IsList sl vs.toArray) (F : Fr g L h₁ (fun y => List.lookup y [(Str.ofString "script", Value.ref sl)])) (N : News g L h₁ [(268, X.tableObj ps)]) (hG : AllBare gn) (hdp : dp + 41 < recursionLimit) (hu : un + 403 < cLine) :
    wpR (model PySem.Challenge.rw_im0109_02.row.prog w) (ktrTop (dp + 1) (un + 3) gd q sc L fa cd [] outer) (execs b (envX q sc L fa cd [])) (RetQ g L d os) (fun _ _ => False) ⟨h₁, gn, d, tk, os⟩ := by
  rw [show b = (b.drop 0).take 5 ++ b.drop 5 by rw [List.drop_zero, List.take_append_drop]]
  refine wpR_seq (wpR_mono (part1 sl vs ns ps hI hlen b sc q cd hb (dp + 1) (un + 3) gd fa L outer A₀ g g h₁ gn d tk os _ _ C hl F N ⟨rfl, rfl⟩ hG (by omega) (by omega)) (fun f s' hq => ?_) (fun _ _ z => z))
  obtain ⟨hf, m', news', F', N', hP', hG', hdr, hos⟩ := hq
  obtain ⟨h', gn', d', tk', os'⟩ := s'
  dsimp only at F' N' hG' hdr hos
  subst hdr; subst hos
  exact ⟨hf, law_rest sl ns ps hps b sc q cd hb dp un gd fa L outer A₀ g h' gn' d' tk' os' m' news' C F' N' hP' hG' hdp hu⟩
end
section
variable {w : World} {mg mb : Str → Option Value} {bm : Addr} {ob : Obj}
theorem ns_hide {h : Heap} {a : Addr} {m : Str → Option Value} (hn : h.Ns a m) (ht : h.get? 268 = some (tabObj #[])) : (hideAll h [268]).Ns a m := by
  obtain ⟨o, es, ep, ho, hd, r⟩ := hn
  refine ⟨o, es, ep, hideAll_get _ ho fun hm => ?_, hd, r⟩
  rw [List.mem_singleton.mp hm, ht] at ho
  obtain rfl := Option.some.inj ho
  cases hd
theorem law_of {name qual : Str} {params : Arguments} {body : List Stmt} {scope : Scope} {dV kV doc pm cdv ct oc : Value} {an od : Option Addr} {osl : Array (Option Value)} {sl : Addr} {vs : List Value} {ns : List Int} {s : Shared}
    (ho : (hd.heap_39 w.params).lookup 327 = some ⟨oc, od, .func (fnX name qual params body scope [] dV kV doc pm an cdv ct), osl⟩) (hcd : codeIn (hd.heap_39 w.params) cdv qual = true)
    (hbind : ∀ s : Shared, (hd.heap_39 w.params).In s.heap → BindsTo s (fnX name qual params body scope [] dV kV doc pm an cdv ct) ⟨[.ref sl], []⟩ [(Str.ofString "script", .ref sl)])
    (hloc : ∀ y ∈ [(Str.ofString "script", Value.ref sl)], scope.names.lookup y.1 = some .local) (hcell : ∀ x ∈ scope.names, x.2 ≠ .cell)
    (hco : scope.isCoroutine = false) (hgen : scope.isGenerator = false) (hk : scope.kind = .function) (h8 : (hd.heap_39 w.params).lookup 268 = none)
    (h272 : ∃ o cv, (hd.heap_39 w.params).lookup 272 = some o ∧ o.cls = .type "code" ∧ o.data = .fields cv ∧ cv[11]? = some (.ref 268))
    (hI : IntsAre vs ns) (hlen : ns.length ≤ 63) (hl : s.heap.IsList sl vs.toArray) (XK : (hd.heap_39 w.params).In s.heap) (hTab : s.heap.get? 268 = some (tabObj #[])) (T : TopRead hd.view_39 LO mg mb s.heap) (M : BMod s.heap mainGlobals mg bm ob) (hG : AllBare s.gens) :
    wpR (model PySem.Challenge.rw_im0109_02.row.prog w) callerA (call (.ref 327) [.ref sl] []) (fun v s' => v = .bool true ∧ OldK s.heap s'.heap ∧ s'.os = s.os ∧ AllBare s'.gens) (fun _ _ => False) s := by
  refine wpR_call ?_
  refine codeR_call_def (fd := fnX name qual params body scope [] dV kV doc pm an cdv ct) (body := body) (binds := [(Str.ofString "script", .ref sl)]) (by decide) (XK _ _ ho) rfl T.nolimit (codeRec_of XK hcd) rfl (hbind s XK) hcell hloc (fun h₁ hns hk₁ => ?_) hco hgen hk
  obtain ⟨hh, gn, d, t, os⟩ := s
  dsimp only at hns hk₁ hTab hl XK T M hG ⊢
  have st : ∀ b o, hh.get? b = some o → b ≠ 268 → (hideAll hh [268]).get? b = some o := fun b o e n => hideAll_get _ e fun hm => n (List.mem_singleton.mp hm)
  have X' : (hd.heap_39 w.params).In (hideAll hh [268]) := fun a o e => st a o (XK a o e) fun z => by rw [z, h8] at e; cases e
  have hsl : sl ≠ 268 := by
    rintro rfl
    obtain ⟨o, ho', hc, _⟩ := hl
    rw [hTab] at ho'
    obtain rfl := Option.some.inj ho'
    cases hc
  have hbm : bm ≠ 268 := by
    rintro rfl
    have := M.obj
    rw [hTab] at this
    have hc := M.cls
    obtain rfl := Option.some.inj this
    cases hc
  have C : CX w mg mb bm ob callerA (hideAll hh [268]) [] (hideAll hh [268]) :=
    ⟨below_caller _, X', ⟨ns_hide T.g hTab, ns_hide T.b hTab, (let ⟨mc, a, b⟩ := T.nolimit; ⟨mc, ns_hide a hTab, b⟩), T.builtins, T.free⟩, ⟨ns_hide M.ns hTab, M.name, M.ne, st _ _ M.obj hbm, M.cls, M.dict, M.data⟩⟩
  have F : Fr (hideAll hh [268]) hh.objs.size h₁ (fun y => List.lookup y [(Str.ofString "script", Value.ref sl)]) := ⟨hns, fun b o e => hk₁ b o (of_hideAll _ e), Nat.le_of_eq (hideAll_size _ _)⟩
  have N : News (hideAll hh [268]) hh.objs.size h₁ [(268, X.tableObj #[])] := fun q hq => by
    rw [List.mem_singleton.mp hq]
    exact ⟨hk₁ _ _ hTab, Nat.ne_of_lt (Heap.lt_size hTab), hideAll_none _ (.head _)⟩
  have hl' : (hideAll hh [268]).IsList sl vs.toArray := let ⟨o, ho', r⟩ := hl; ⟨o, st _ _ ho' hsl, r⟩
  have key := law_body (w := w) (mg := mg) (mb := mb) (bm := bm) (ob := ob) hI hlen sl #[] trivial (fnBody_is ho) (dp := 1 + claimMargin) (un := 4) (gd := some []) (fa := 327) (L := hh.objs.size) (outer := []) (gn := gn) (d := d) (tk := t + 1) (os := os) C hl' F N hG (by decide) (by decide)
  refine wpR_mono key (fun f s' hq => ?_) (fun _ _ z => z.elim)
  obtain ⟨rfl, m, ps, F', N', hG', hdr, hos⟩ := hq
  refine ⟨rfl, ?_, hos, hG'⟩
  obtain ⟨oc', cv, hc1, hc2, hc3, hc4⟩ := h272
  have h272 : (272 : Addr) ≠ 268 := by decide
  have ht : hh.TableAt 272 268 #[] := ⟨⟨oc', cv, XK _ _ hc1, hc2, hc3, hc4⟩, hTab⟩
  refine (OldK.refl hh).step_table ht ht (more := ps) ⟨⟨oc', cv, F'.keep _ _ (st _ _ (XK _ _ hc1) h272), hc2, hc3, hc4⟩, ?_⟩ (fun b o hb e => F'.keep _ _ (st b o e hb)) (by decide)
  have := (N' _ (.head _)).1
  rw [this]
  show some (X.tableObj ps) = some _
  rw [Array.empty_append]
  rfl
theorem law_call {sl : Addr} {vs : List Value} {ns : List Int} {s : Shared} (hI : IntsAre vs ns) (hlen : ns.length ≤ 63) (hl : s.heap.IsList sl vs.toArray) (XK : (hd.heap_39 w.params).In s.heap) (hTab : s.heap.get? 268 = some (tabObj #[])) (T : TopRead hd.view_39 LO mg mb s.heap) (M : BMod s.heap mainGlobals mg bm ob) (hG : AllBare s.gens) :
    wpR (model PySem.Challenge.rw_im0109_02.row.prog w) callerA (call (.ref 327) [.ref sl] []) (fun v s' => v = .bool true ∧ OldK s.heap s'.heap ∧ s'.os = s.os ∧ AllBare s'.gens) (fun _ _ => False) s := by
  revert hI hlen hl XK hTab T M hG
  w_on
  k_fill
  intro hI hlen hl XK hTab T M hG
  refine' law_of ?ho ?hcd ?hbind ?hloc ?hcell ?hco ?hgen ?hk ?h8 ?h272 hI hlen hl XK hTab T M hG
  case ho => k_is
  case hcd => k_is
  case hbind => exact (fun s X => by first | exact binds_K X rfl (by k_is) rfl rfl rfl | exact BindsTo.of_eq rfl)
  case hloc => exact (locs rfl)
  case hcell => decide
  case hco => exact rfl
  case hgen => exact rfl
  case hk => exact rfl
  case h8 => kernel_rfl
  case h272 => exact ⟨_, _, by k_is, rfl, rfl, rfl⟩
end
section
variable {w : World} {mg mb : Str → Option Value} {bm : Addr} {ob : Obj}
theorem zz : PySem.Challenge.rw_im0109_02.Holds := hd (by
  w_strict
  k_fill
  intro w s₀ s₁ mg mb G Y fa o pm cd doc dV kV ho hd' hcd hD hmg hg args vals as hpre hlay hrd hwl hlo
  have KX := Y.1
  have hTab := km_tabs_of Y 268 (by decide)
  refine Ground.open G ?_
  intro T B D TE TW
  obtain ⟨_, _, M⟩ := bmod_of_top T
  have hfa := mg_of (n := Str.ofString "law") (v := .ref 327) KX T.g (by k_is)
  rw [hfa] at hmg
  have hfe : fa = 327 := by injection hmg with e; injection e with e; exact e.symm
  subst hfe
  wrow_args hpre hlay hrd hwl hlo
  refine wpR_mono (law_call ‹IntsAre _ _› (by omega) ‹s₁.heap.IsList _ _› KX hTab (topRead_of T) M (.of_eq hg)) (fun v s' hq => ?_) (fun _ _ z => z.elim)
  obtain ⟨rfl, hK, hos, hG⟩ := hq
  exact ⟨.inl ⟨_, _, [], rfl, (fun _ => rfl), ReadsW.bool true, (by first | rfl | wrow_post), fun _ => ⟨List.nodup_nil, fun _ hm => nomatch hm⟩⟩, hK, hos, hG⟩)
end
end
end
end
end
end
end
end
end
end
end
end
end Mine02
theorem PySem.Challenge.cw_im0109_02_holds : PySem.Challenge.rw_im0109_02.Holds := by
  exact Mine02.zz
